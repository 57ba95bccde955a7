import JvmDerived
import JvmDerived.Pilot.@@N@@Statement
import JvmDerived.Pilot.@@N@@Code
set_option linter.unusedVariables false
set_option linter.unusedSimpArgs false
set_option maxRecDepth 65536
set_option maxHeartbeats 40000000
namespace Jvm.Pilot.@@N@@
open Jvm Jvm.ClassFile Sem Op Lib Jvm.Free Jvm.Stand Jvm.LawKit Jvm.RoadKit Bundle Jvm.Pilot.@@N@@.Jvm.D
theorem oW {a0 : Array Value} {Z : State} (hw : ∀ d ∈ tables_1, d.before a0 Z = true) {d : Jvm.Cond} (i : Nat) (h : tables_1[i]? = some d) : d.before a0 Z = true := hw _ (List.mem_of_getElem? h)
theorem oMvM {Z s : State} {a0 args : Array Value} {own host : String} {index : Nat} {x : MethodName} (hZ : Z.Warmed39 s.vm) (w : (Jvm.Cond.methodLinkNest own index x host).before a0 Z = true) : (Jvm.Cond.methodLinkNest own index x host).before args s = true := (Cond.methodLinkNest_wide hZ w :)
abbrev uu : Slot := .unset
abbrev ss : Slot := .second
/-- the run from T with g on top comes to a state of which P holds -/
def oWk (tb : Tables) (e : Env) (below : List Frame) (P : State → Prop) (T : State) (g : JFrame) : Prop := ∃ t, Steps tb e below (T.setTop g) t ∧ P t
section OwnA
variable {tb : Tables} {e : Env} {below : List Frame} {P : State → Prop} {T T' : State} {g g' : JFrame}
theorem oWk.st (f : ∀ t, Steps tb e below (T'.setTop g') t → Steps tb e below (T.setTop g) t) (k : oWk tb e below P T' g') : oWk tb e below P T g := k.elim fun t q => ⟨t, f t q.1, q.2⟩
theorem oWk.to (g' : JFrame) (f : ∀ t, Steps tb e below (T'.setTop g') t → Steps tb e below (T.setTop g) t) (k : oWk tb e below P T' g') : oWk tb e below P T g := k.elim fun t q => ⟨t, f t q.1, q.2⟩
theorem oWk.tr (f : Steps tb e below (T.setTop g) (T'.setTop g')) (k : oWk tb e below P T' g') : oWk tb e below P T g := k.elim fun t q => ⟨t, f.trans q.1, q.2⟩
theorem oWk.cast (q : g = g') (k : oWk tb e below P T g') : oWk tb e below P T g := q ▸ k
end OwnA
/-- one stands as before, in another state that left other places written -/
def oStd {p : Program} {l : Launch} {e : Env} {R : Room} {s : State} {m : MethodId} {args : Array Value} {below : List Frame} {meth : Method} {c : Code} {T : State} {locs : List Loc} {cells slots : Nat} (_ : Stand p l e R s m args below meth c T locs cells slots) (T' : State) (L' : List Loc) : Prop := Stand p l e R s m args below meth c T' L' cells slots
/-- the invocation has ended: a value, the heap, the places written -/
def oDn (s : State) (below : List Frame) (Q : Option Value → Heap → List Loc → Prop) (k n : Nat) (t : State) : Prop := t.status = .running ∧ ∃ v L, Ended t below (.returned v) ∧ Q v t.heap L ∧ FrameEnd s (.returned v) t L k n
/-- a contract: called with these arguments on this heap the body returns and Q holds -/
abbrev oCon (l : Launch) (Z : State) (y : MethodName) (bytes : ByteArray) (maxL : Nat) (ret : Option FieldType) (ws : List Jvm.Cond) (rm : Room) (as' : Array Value) (h0 : Heap) (Q : Option Value → Heap → List Loc → Prop) : Prop :=
  MetFree l y (head1 (Jvm.Cond.code y bytes maxL ret :: ws) rm) (fun a U => a = as' ∧ Z.Warmed39 U.vm ∧ U.heap = h0) (fun _ _ _ _ _ => True) (fun _ U o U' => ∃ v L, o = .returned v ∧ Q v U'.heap L ∧ FrameEnd U o U' L rm.cells rm.slots)
theorem oCon.of {l : Launch} {Z : State} {y : MethodName} {bytes : ByteArray} {maxL : Nat} {ret : Option FieldType} {ws : List Jvm.Cond} {rm : Room} {as' : Array Value} {h0 : Heap} {Q : Option Value → Heap → List Loc → Prop} (hp : plainFor y = true)
    (body : ∀ (p : Program) (e : Env) (s : State) (m : MethodId) (below : List Frame) (meth : Method) (c : Code) (T : State), Stand p l e rm s m as' below meth c T [] 0 0 → p.tables.exec = Jvm.exec → c.code = bytes → c.maxLocals = maxL → s.vm.findClass y.cls = some m.cls → meth.name = y.name → meth.sig.returnType = ret → meth.locks = false → Z.Warmed39 s.vm → T.heap = h0 → oWk p.tables e below (oDn s below Q rm.cells rm.slots) T (entryFrame m as' maxL)) :
    oCon l Z y bytes maxL ret ws rm as' h0 Q := by
  refine MetFree.of_bodySF hp hisR ?_
  intro p e s m args below meth c s₁ Bd hml0 hP hK
  obtain ⟨rfl, hZ, hh⟩ := hP
  have e0 : s₁.heap = h0 := by rw [← hh, Bd.state]; rfl
  obtain ⟨t, h1, h2, v, L, h3, h4, h5⟩ := body p e s m below meth c s₁ (Stand.of_body Bd) Bd.exec Bd.bytes hml0 (findClass_of_methodNamed Bd.named) (name_of_methodNamed Bd.named Bd.method).1 Bd.returns Bd.notSynchronized hZ e0
  exact ⟨t, _, h1, h2, h3, v, L, rfl, h4, h5⟩
section OwnB
variable {p : Program} {l : Launch} {e : Env} {R : Room} {s : State} {m : MethodId} {args : Array Value} {below : List Frame} {meth : Method} {c : Code} {T : State} {locs : List Loc} {cells slots : Nat} {Q : Option Value → Heap → List Loc → Prop} {k n pc : Nat} {Ls : Array Slot}
theorem oRet (X : Stand p l e R s m args below meth c T locs cells slots) (hx : p.tables.exec = Jvm.exec) (hlk : meth.locks = false) {w : Value} {t : FieldType} {i : Instr} {rest : List Value} (hret : meth.sig.returnType = some t) (hn : narrow t w = w)
    (hi : (i = .ireturn ∧ (t = .int ∨ t = .boolean ∨ t = .byte ∨ t = .char ∨ t = .short) ∧ ∃ z, w = .int z) ∨ (i = .lreturn ∧ t = .long ∧ ∃ z, w = .long z) ∨ (i = .dreturn ∧ t = .double ∧ ∃ z, w = .double z) ∨ (i = .freturn ∧ t = .float ∧ ∃ z, w = .float z) ∨ (i = .areturn ∧ t.isReference = true ∧ w.isRef = true))
    (hd : decode c.code pc = .ok (i, 1)) (hQ : Q (some w) T.heap locs) (hk : cells ≤ k) (hs : slots ≤ n) : oWk p.tables e below (oDn s below Q k n) T (mkF m pc Ls (w :: rest)) := by
  obtain ⟨fs, hr, hrun, hended, hW, hsame⟩ := X.leave (v := some w) (fun h => by rw [hret] at h; cases h) hlk
  exact ⟨_, retOut X hx hret hn hi hd hr, hrun, _, _, hended, hQ, ⟨_, rfl⟩, hW, hsame.mono hk hs⟩
theorem oRetI (X : Stand p l e R s m args below meth c T locs cells slots) (hx : p.tables.exec = Jvm.exec) (hlk : meth.locks = false) {z : Int32} {rest : List Value} (hret : meth.sig.returnType = some .int) (hd : decode c.code pc = .ok (.ireturn, 1)) (hQ : Q (some (.int z)) T.heap locs) (hk : cells ≤ k) (hs : slots ≤ n) :
    oWk p.tables e below (oDn s below Q k n) T (mkF m pc Ls (.int z :: rest)) := oRet X hx hlk hret rfl (Or.inl ⟨rfl, Or.inl rfl, _, rfl⟩) hd hQ hk hs
theorem oRetZ (X : Stand p l e R s m args below meth c T locs cells slots) (hx : p.tables.exec = Jvm.exec) (hlk : meth.locks = false) {z : Int32} {rest : List Value} (hret : meth.sig.returnType = some .boolean) (hd : decode c.code pc = .ok (.ireturn, 1)) (hz : z = 0 ∨ z = 1) (hQ : Q (some (.int z)) T.heap locs) (hk : cells ≤ k) (hs : slots ≤ n) :
    oWk p.tables e below (oDn s below Q k n) T (mkF m pc Ls (.int z :: rest)) := oRet X hx hlk hret (by rcases hz with rfl | rfl <;> rfl) (Or.inl ⟨rfl, Or.inr (Or.inl rfl), _, rfl⟩) hd hQ hk hs
theorem oRetN (X : Stand p l e R s m args below meth c T locs cells slots) (hx : p.tables.exec = Jvm.exec) (hlk : meth.locks = false) {z : Int32} {t : FieldType} {rest : List Value} (hret : meth.sig.returnType = some t) (ht : t = .byte ∨ t = .char ∨ t = .short) (hn : narrow t (.int z) = .int z) (hd : decode c.code pc = .ok (.ireturn, 1)) (hQ : Q (some (.int z)) T.heap locs) (hk : cells ≤ k) (hs : slots ≤ n) :
    oWk p.tables e below (oDn s below Q k n) T (mkF m pc Ls (.int z :: rest)) := oRet X hx hlk hret hn (Or.inl ⟨rfl, Or.inr (Or.inr ht), _, rfl⟩) hd hQ hk hs
theorem oRetD (X : Stand p l e R s m args below meth c T locs cells slots) (hx : p.tables.exec = Jvm.exec) (hlk : meth.locks = false) {z : UInt64} {rest : List Value} (hret : meth.sig.returnType = some .double) (hd : decode c.code pc = .ok (.dreturn, 1)) (hQ : Q (some (.double z)) T.heap locs) (hk : cells ≤ k) (hs : slots ≤ n) :
    oWk p.tables e below (oDn s below Q k n) T (mkF m pc Ls (.double z :: rest)) := oRet X hx hlk hret rfl (Or.inr (Or.inr (Or.inl ⟨rfl, rfl, _, rfl⟩))) hd hQ hk hs
theorem oNarR {t : FieldType} {w : Value} (ht : t.isReference = true) (hw : w.isRef = true) : narrow t w = w := by cases t <;> cases w <;> simp_all [narrow, FieldType.isReference, Value.isRef]
theorem oRetA (X : Stand p l e R s m args below meth c T locs cells slots) (hx : p.tables.exec = Jvm.exec) (hlk : meth.locks = false) {w : Value} {t : FieldType} {rest : List Value} (hret : meth.sig.returnType = some t) (ht : t.isReference = true) (hw : w.isRef = true) (hd : decode c.code pc = .ok (.areturn, 1)) (hQ : Q (some w) T.heap locs) (hk : cells ≤ k) (hs : slots ≤ n) :
    oWk p.tables e below (oDn s below Q k n) T (mkF m pc Ls (w :: rest)) := oRet X hx hlk hret (oNarR ht hw) (Or.inr (Or.inr (Or.inr (Or.inr ⟨rfl, ht, hw⟩)))) hd hQ hk hs
theorem oRetV (X : Stand p l e R s m args below meth c T locs cells slots) (hx : p.tables.exec = Jvm.exec) (hlk : meth.locks = false) (hret : meth.sig.returnType = none) (hd : decode c.code pc = .ok (.return_, 1)) (hQ : Q none T.heap locs) (hk : cells ≤ k) (hs : slots ≤ n) :
    oWk p.tables e below (oDn s below Q k n) T (mkF m pc Ls []) := by
  obtain ⟨fs, hr, hrun, hended, hW, hsame⟩ := X.leave (v := none) (fun _ => rfl) hlk
  exact ⟨_, X.returnOut hx hret hd hr, hrun, _, _, hended, hQ, ⟨_, rfl⟩, hW, hsame.mono hk hs⟩
end OwnB
/-- the heap is kept but for ws and new cells; the places written lie there -/
def oKp (h0 h : Heap) (ws : List Addr) (L : List Loc) : Prop := Keep h0 h ws ∧ ∀ y ∈ L, y.base ∈ ws ∨ h0.size ≤ y.base
section OwnC
variable {Z : State} {h0 h h' : Heap} {ws ws' : List Addr} {L L' : List Loc} {a : Addr} {sl : Nat} {v : Value}
theorem oKp.nil (h : Heap) (ws : List Addr) : oKp h h ws [] := ⟨Keep.refl _ _, fun _ q => nomatch q⟩
theorem oKp.ext (K : oKp h0 h ws L) (E : Ext h h') : oKp h0 h' ws L := ⟨K.1.ext E, K.2⟩
theorem oKp.wr (K : oKp h0 h ws L) (W : Wr h h' a sl v) (q : a ∈ ws ∨ h0.size ≤ a) : oKp h0 h' ws (L ++ [⟨a, sl⟩]) := ⟨K.1.wr W q, fun y hy => (List.mem_append.mp hy).elim (K.2 y) fun hy => by cases List.mem_singleton.mp hy; exact q⟩
theorem oKp.call (K : oKp h0 h ws L) (K' : oKp h h' ws' L') (q : ∀ x ∈ ws', x ∈ ws ∨ h0.size ≤ x) : oKp h0 h' ws (L ++ L') := ⟨K.1.trans K'.1 q, fun y hy => (List.mem_append.mp hy).elim (K.2 y) fun hy => (K'.2 y hy).elim (q _) fun z => Or.inr (Nat.le_trans K.1.1 z)⟩
theorem oKp.le (K : oKp h0 h ws L) : h0.size ≤ h.size := K.1.1
theorem oKp.old (K : oKp h0 h ws L) (O : Ext Z.heap h0) (q : ∀ x ∈ ws, Z.heap.size ≤ x) : Ext Z.heap h := ⟨Nat.le_trans O.1 K.1.1, fun x c hc => K.1.2.1 x c (O.2 x c hc) fun hx => absurd (Array.getElem?_eq_some_iff.mp hc).1 (Nat.not_lt.mpr (q x hx))⟩
theorem oKp.fr (K : oKp h0 h [] L) : Fr h0.size L := fun y hy => (K.2 y hy).elim (fun q => nomatch q) id
theorem oExtRefl (h : Heap) : Ext h h := ⟨Nat.le_refl _, fun _ _ q => q⟩
theorem Ext.keep0 (E : Ext h h') : Keep h h' [] := ⟨E.1, fun x c q _ => E.2 x c q, fun x c q => ⟨c, E.2 x c q, rfl, rfl, rfl⟩⟩
end OwnC
/-- a truth as an int -/
def oBi (P : Prop) [Decidable P] : Int32 := if P then 1 else 0
theorem oBi_t {P : Prop} [Decidable P] (h : P) : oBi P = 1 := if_pos h
theorem oBi_f {P : Prop} [Decidable P] (h : ¬ P) : oBi P = 0 := if_neg h
theorem oBi_ne {P : Prop} [Decidable P] (h : P) : ¬ oBi P = 0 := by rw [oBi_t h]; decide
theorem oBi_01 (P : Prop) [Decidable P] : oBi P = 0 ∨ oBi P = 1 := by by_cases h : P; exact Or.inr (if_pos h); exact Or.inl (if_neg h)
theorem oBi_0 {P : Prop} [Decidable P] (h : oBi P = 0) : ¬ P := fun q => oBi_ne q h
theorem oBi_1 {P : Prop} [Decidable P] (h : ¬ oBi P = 0) : P := Decidable.byContradiction fun q => h (oBi_f q)
section OwnD
variable {args : Array Value} {Z : State} {t u : Term} {C n d K : String} {a b : Addr} {k : Int32}
theorem oFldR (ht : t.eval args Z none [] Z = some (.ref a)) (hu : u.eval args Z none [] Z = some (.ref b)) (h : (Jvm.Cond.eq (.field t C n d) u).value args Z none Z [] = some true) : Fld Z Z.heap a C n d (.ref b) := by
  obtain ⟨x, y, e1, e2, k1, k2⟩ := cmp_v (Or.inl h)
  cases hu.symm.trans e2
  have hx : x.isRef = true := k2.2
  have q := gotT (eq_R e1 e2 hx rfl) h
  subst q
  exact Fld.start ((fld_at ht).symm.trans e1)
theorem oFldI (ht : t.eval args Z none [] Z = some (.ref a)) (h : (Jvm.Cond.eq (.field t C n d) (.int k)).value args Z none Z [] = some true) : Fld Z Z.heap a C n d (.int k) := by
  obtain ⟨x, y, e1, e2, k1, k2⟩ := cmp_v (Or.inl h)
  cases (Option.some.inj e2 : Value.int k = y)
  obtain ⟨z, rfl⟩ := (k2 : ∃ z, x = .int z)
  have q : z = k := by
    have h' := h
    simp only [Cond.value, e1, e2] at h'
    simpa using h'
  subst q
  exact Fld.start ((fld_at ht).symm.trans e1)
theorem oFldX (ht : t.eval args Z none [] Z = some (.ref a)) (h : (Jvm.Cond.exactly (.field t C n d) K).value args Z none Z [] = some true) : ∃ b, (Term.field t C n d).eval args Z none [] Z = some (.ref b) ∧ Fld Z Z.heap a C n d (.ref b) ∧ Exa Z Z.heap b K := by
  obtain ⟨b, e1⟩ := exa_v h
  exact ⟨b, e1, Fld.start ((fld_at ht).symm.trans e1), Exa.start e1 h⟩
theorem oNe32 {x y : Int32} (h : ¬ x = y) : x.toInt ≠ y.toInt := fun q => h (Int32.toInt_inj.mp q)
end OwnD
section OwnE
variable {Z : State} {a0 : Array Value} {C O K : String} {n : Nat} {h h' : Heap} {a : Addr} {ws : List Addr}
theorem oNSroot (wo : (Jvm.Cond.noSuperclass O).before a0 Z = true) (wk : (Jvm.Cond.instantiable K n).before a0 Z = true) (h2 : O ≠ K) : NS Z O K := by
  obtain ⟨t, kt, g1, -⟩ := Cond.instantiable_spec wk
  obtain ⟨c, k, a1, a2, a3, -, -⟩ := Cond.noSuperclass_spec wo
  have ne := ids_ne a1 g1 h2
  refine ⟨c, t, a1, g1, fun fuel => ?_⟩
  cases fuel with
  | zero => rfl
  | succ f => simp [Vm.isSubclassAux, ne, a2, a3]
theorem oNSno (w : (Jvm.Cond.superclass C O).before a0 Z = true) (wk : (Jvm.Cond.instantiable K n).before a0 Z = true) (N : NS Z C K) (h1 : C ≠ K) : ∃ c t, Z.vm.findClass C = some c ∧ Z.vm.findClass K = some t ∧ Z.vm.assignable c t = false := by
  obtain ⟨t, kt, g1, g2, g3, g4, -⟩ := Cond.instantiable_spec wk
  obtain ⟨c, t', b0, b1, b2⟩ := N
  cases g1.symm.trans b1
  obtain ⟨p, k, kp, e1, e2, e3, e4, e5, -, e7⟩ := Cond.superclass_spec b0 w
  have ne := ids_ne b0 g1 h1
  have gi : kt.isInterface = false := by simp only [Bool.or_eq_false_iff] at g4; exact g4.1
  refine ⟨c, t, b0, g1, ?_⟩
  show Z.vm.assignableAux (255 + 1) c t = false
  simp [Vm.assignableAux, ne, e2, g2, e5, g3, gi, Vm.isSubclass, b2]
theorem oNotInst (w : (Jvm.Cond.superclass C O).before a0 Z = true) (wo : (Jvm.Cond.noSuperclass O).before a0 Z = true) (wk : (Jvm.Cond.instantiable K n).before a0 Z = true) (h1 : C ≠ K) (h2 : O ≠ K) : ∃ c t, Z.vm.findClass C = some c ∧ Z.vm.findClass K = some t ∧ Z.vm.assignable c t = false :=
  oNSno w wk (NS.step w (oNSroot wo wk h2) h1) h1
theorem oInsKeep {b : Bool} (F : Ins Z h a K b) (H : Keep h h' ws) : Ins Z h' a K b := by
  obtain ⟨cell, cT, h1, h2, h3⟩ := F
  obtain ⟨c', e1, e2, e3, -⟩ := H.2.2 _ _ h1
  exact ⟨c', cT, e1, h2, by rw [e2, e3]; exact h3⟩
end OwnE
theorem oNot0 {args : Array Value} {Z : State} {t : Term} {x : Int32} (h : t.eval args Z none [] Z = some (.int x)) (hn : (Jvm.Cond.not (.eq t (.int 0))).value args Z none Z [] = some true) : ¬ x = (0 : Int32) := fun q => by
  subst q
  have e : (Jvm.Cond.eq t (.int 0)).value args Z none Z [] = some true := eq_i h (Term.int_eval 0) rfl
  simp [Cond.value] at hn e
  rw [e] at hn
  simp at hn
theorem oFldD {args : Array Value} {Z : State} {t : Term} {C n d : String} {a : Addr} {k : Int64} (ht : t.eval args Z none [] Z = some (.ref a)) (h : (Jvm.Cond.eq (.field t C n d) (.op1 .bitsD (.long k))).value args Z none Z [] = some true) : Fld Z Z.heap a C n d (.double k.toUInt64) := by
  obtain ⟨x, y, e1, e2, k1, k2⟩ := cmp_v (Or.inl h)
  have e3 : (Term.op1 .bitsD (.long k)).eval args Z none [] Z = some (.double k.toUInt64) := rfl
  cases e3.symm.trans e2
  obtain ⟨z, rfl⟩ := (k2 : ∃ z, x = .double z)
  have q : z = k.toUInt64 := by
    have h' := h
    simp only [Cond.value, e1, e2] at h'
    simpa using h'
  subst q
  exact Fld.start ((fld_at ht).symm.trans e1)
section OwnF
variable {p : Program} {l : Launch} {e : Env} {R : Room} {s : State} {m : MethodId} {args : Array Value} {below : List Frame} {meth : Method} {c : Code} {T : State} {locs : List Loc} {cells slots : Nat} {Z : State} {a0 : Array Value} {h : Heap} {own C : String} {index : Nat} {a mr : Addr}
/-- the Class object of C has been made: mr -/
def oMir (Z : State) (C : String) (mr : Addr) : Prop := ∃ (c : ClassId) (k : Class), Z.vm.findClass C = some c ∧ Z.vm.classes[c]? = some k ∧ k.mirror = some mr
abbrev oGc : MethodName := ⟨"java/lang/Object", "getClass", "()Ljava/lang/Class;"⟩
theorem oGcls (X : Stand p l e R s m args below meth c T locs cells slots) (hx : p.tables.exec = Jvm.exec) (hZ : Z.Warmed39 s.vm) (hown : s.vm.findClass own = some m.cls) (w1 : (Jvm.Cond.methodLink own index oGc).before a0 Z = true) (w2 : (Jvm.Cond.declares oGc).before a0 Z = true) (w4 : (Jvm.Cond.selects C oGc oGc).before a0 Z = true) (w5 : (Jvm.Cond.instanceMethod oGc).before a0 Z = true) (w6 : (Jvm.Cond.native oGc).before a0 Z = true) (eT : T.heap = h) (E : Exa Z h a C) (M : oMir Z C mr)
    {g : JFrame} (hg : g.method = m) (hsize : g.locals.size = c.maxLocals) {rest : List Value} (hs : g.stack = .ref a :: rest) (hd : decode c.code g.pc = .ok (.invokevirtual index, 3)) (hf : 1 ≤ R.frames) {W : Nat} (hW : 2 * g.monitorRoom + (rest.map fun v => v.category).sum ≤ W) (hl : W + (nativeFrameWords "java/lang/Object" "getClass" 1 + 11) ≤ R.locals) :
    ∃ T', Stand p l e R s m args below meth c T' locs cells slots ∧ T'.heap = h ∧ ∀ target, Steps p.tables e below (T'.setTop { g with pc := g.pc + 3, stack := .ref mr :: rest }) target → Steps p.tables e below (T.setTop g) target := by
  obtain ⟨cB, kB, i1, i2, i3⟩ := isOf hZ eT E
  obtain ⟨cc, kc, m1, m2, m3⟩ := M
  have i0 := i1
  rw [hZ.alike.findClass] at i1
  cases i1.symm.trans m1
  obtain ⟨k', q, ek⟩ := hZ.alike.2.2 _ _ m2
  obtain ⟨vm', X', st⟩ := X.getClassOf hx hown (mvT hZ w1) (mvT hZ w2) (notFace_of_selects (args := #[]) (mvT hZ w4)) (mvT hZ w4) (mvT hZ w5) (mvT hZ w6) i0 i3 q (by rw [ek]; exact m3) hg hsize hs hd hf (by omega)
  exact ⟨_, X', eT, st⟩
theorem oLdcM (X : Stand p l e R s m args below meth c T locs cells slots) (hx : p.tables.exec = Jvm.exec) (hZ : Z.Warmed39 s.vm) (hown : s.vm.findClass own = some m.cls) (w : (Jvm.Cond.classLink own index C).before a0 Z = true) (eT : T.heap = h) (M : oMir Z C mr)
    {g : JFrame} (hg : g.method = m) (hd : decode c.code g.pc = .ok (.ldc index, 2)) : ∃ T', Stand p l e R s m args below meth c T' locs cells slots ∧ T'.heap = h ∧ ∀ target, Steps p.tables e below (T'.setTop { g with pc := g.pc + 2, stack := .ref mr :: g.stack }) target → Steps p.tables e below (T.setTop g) target := by
  obtain ⟨cc, kc, m1, m2, m3⟩ := M
  obtain ⟨k', q, ek⟩ := hZ.alike.2.2 _ _ m2
  have f1 : s.vm.findClass C = some cc := by rw [hZ.alike.findClass]; exact m1
  have f2 : k'.mirror = some mr := by rw [ek]; exact m3
  obtain ⟨vm', X', st⟩ := X.ldcMirror hx hown (mvT hZ w) (a := mr) (by simp [Term.eval, f1, q, f2]) hg hd
  exact ⟨_, X', eT, st⟩
end OwnF
theorem oArr0 {args : Array Value} {Z : State} {t : Term} {a : Addr} {ty : FieldType} {dv : Value} (hf : Fit Z) (ev : t.eval args Z none [] Z = some (.ref a)) (h1 : (Jvm.Cond.arrayOf t ty).value args Z none Z [] = some true) (h2 : (Jvm.Cond.eq (.length t) (.int 0)).value args Z none Z [] = some true) : ∃ k, Arv Z Z.heap a k ty 0 [] dv := by
  obtain ⟨cl, A⟩ := Arr.start ev h1
  have ha : Z.arrayAt? a = some cl := Arr.fin (Vm.Alike.refl _) A
  have hlt : cl.slots.size < 2 ^ 31 := by
    apply Decidable.byContradiction
    intro q
    have e : (Term.length t).eval args Z none [] Z = none := by
      cases hv : (Term.length t).eval args Z none [] Z with
      | none => rfl
      | some y =>
        simp only [Term.eval, Option.bind_eq_bind] at hv
        rw [ev] at hv
        simp [ha, q] at hv
    simp [Cond.value, e] at h2
  have e : (Term.length t).eval args Z none [] Z = some (.int cl.slots.size.toInt32) := len_f ev ha hlt
  have z : cl.slots.size.toInt32 = 0 := by
    have h' := h2
    simp only [Cond.value, e, Term.int_eval] at h'
    simpa using h'
  have z' : cl.slots.size = 0 := by
    have := len_toInt hlt
    rw [z] at this
    have r : (0 : Int32).toInt = 0 := by decide
    omega
  exact ⟨_, Arv.start hf A hlt z (by decide) rfl trivial⟩
theorem oNar01 {z : Int32} (hz : z = 0 ∨ z = 1) : narrow .boolean (.int z) = .int z := by rcases hz with rfl | rfl <;> rfl
theorem oFitC {x : Int32} (h : 0 ≤ x.toInt ∧ x.toInt < 256) : fits .char (.int x) = true := by
  have e : x.toUInt32.toUInt16.toUInt32.toInt32 = x := by
    have a := c_i2c x
    apply Int32.toInt_inj.mp
    omega
  have q := fits_nar_char x
  have r : nar .char x = x := e
  rw [r] at q; exact q
section OwnH
variable {p : Program} {l : Launch} {e : Env} {R : Room} {s : State} {m : MethodId} {args : Array Value} {below : List Frame} {meth : Method} {c : Code} {T : State} {locs : List Loc} {cells slots : Nat} {Z : State} {a0 : Array Value} {EL : List (String × Nat)} {h h' h0 : Heap} {vm : Vm} {ws : List Addr} {a : Addr} {sl : Nat} {v : Value}
/-- what is known of the tables since the start: no pair of the intern table is old; the constants held still hold their texts -/
def oB (Z : State) (EL : List (String × Nat)) (s : State) (h0 : Heap) (vm : Vm) (h : Heap) : Prop := (∃ k0, s.Since vm k0 ∧ k0 ≤ h.size) ∧ CHr Z EL s.vm h0 vm h
theorem oB.ext (B : oB Z EL s h0 vm h) (E : Ext h h') : oB Z EL s h0 vm h' := ⟨B.1.imp fun _ q => ⟨q.1, Nat.le_trans q.2 E.1⟩, B.2.trans (CHr.ext E B.2.1)⟩
theorem oB.new {o : Addr} (B : oB Z EL s h0 vm h) (q : h.size ≤ o) : Safe Z EL vm h o := Safe.new q
theorem oB.wr (B : oB Z EL s h0 vm h) (W : Wr h h' a sl v) (S : Safe Z EL vm h a) : oB Z EL s h0 vm h' := ⟨B.1.imp fun _ q => ⟨q.1, by rw [W.size]; exact q.2⟩, B.2.trans (CHr.wr W S B.2.1)⟩
theorem oB.keep (B : oB Z EL s h0 vm h) (K : Keep h h' ws) (S : ∀ x ∈ ws, Safe Z EL vm h x) : oB Z EL s h0 vm h' := ⟨B.1.imp fun _ q => ⟨q.1, Nat.le_trans q.2 K.1⟩, B.2.trans (CHr.keep K S B.2.1)⟩
def oDnH (Z : State) (EL : List (String × Nat)) (s : State) (h0 : Heap) (below : List Frame) (Q : Option Value → Heap → List Loc → Prop) (k n : Nat) (t : State) : Prop := t.status = .running ∧ ∃ v L, Ended t below (.returned v) ∧ Q v t.heap L ∧ CHr Z EL s.vm h0 t.vm t.heap ∧ ReturnedEndW s (.returned v) t L k n
/-- a contract of a body that may load String constants; sf: objects that no constant's text lies in -/
abbrev oConH (l : Launch) (Z : State) (EL : List (String × Nat)) (y : MethodName) (bytes : ByteArray) (maxL : Nat) (ret : Option FieldType) (ws : List Jvm.Cond) (rm : Room) (as' : Array Value) (h0 : Heap) (sf : List Addr) (Q : Option Value → Heap → List Loc → Prop) : Prop :=
  MetFree l y (head1 (Jvm.Cond.code y bytes maxL ret :: ws) rm) (fun a U => a = as' ∧ Z.Warmed39 U.vm ∧ U.heap = h0 ∧ CHv Z EL U.vm h0 ∧ ∀ x ∈ sf, Safe Z EL U.vm h0 x) (fun _ _ _ _ _ => True) (fun _ U o U' => ∃ v L, o = .returned v ∧ Q v U'.heap L ∧ CHr Z EL U.vm U.heap U'.vm U'.heap ∧ ReturnedEndW U o U' L rm.cells rm.slots)
theorem oConH.of {l : Launch} {Z : State} {EL : List (String × Nat)} {y : MethodName} {bytes : ByteArray} {maxL : Nat} {ret : Option FieldType} {ws : List Jvm.Cond} {rm : Room} {as' : Array Value} {h0 : Heap} {sf : List Addr} {Q : Option Value → Heap → List Loc → Prop} (hp : plainFor y = true)
    (body : ∀ (p : Program) (e : Env) (s : State) (m : MethodId) (below : List Frame) (meth : Method) (c : Code) (T : State) (vm : Vm), Stand p l e rm (s.setVm vm) m as' below meth c T [] 0 0 → p.tables.exec = Jvm.exec → c.code = bytes → c.maxLocals = maxL → (s.setVm vm).vm.findClass y.cls = some m.cls → meth.name = y.name → meth.sig.returnType = ret → meth.locks = false → Z.Warmed39 (s.setVm vm).vm → T.heap = h0 → oB Z EL s h0 vm h0 → (∀ x ∈ sf, Safe Z EL vm h0 x) → oWk p.tables e below (oDnH Z EL s h0 below Q rm.cells rm.slots) T (entryFrame m as' maxL)) :
    oConH l Z EL y bytes maxL ret ws rm as' h0 sf Q := by
  refine MetFree.of_bodySF hp hisR ?_
  intro p e s m args below meth c s₁ Bd hml0 hP hK
  obtain ⟨rfl, hZ, hh, hC, hs⟩ := hP
  have e0 : s₁.heap = h0 := by rw [← hh, Bd.state]; rfl
  obtain ⟨t, h1, h2, v, L, h3, h4, h5, h6⟩ := body p e s m below meth c s₁ s.vm (Stand.of_body Bd) Bd.exec Bd.bytes hml0 (findClass_of_methodNamed Bd.named) (name_of_methodNamed Bd.named Bd.method).1 Bd.returns Bd.notSynchronized hZ e0 ⟨⟨h0.size, (State.WarmedH.refl s).since _, Nat.le_refl _⟩, CHr.refl hC⟩ hs
  exact ⟨t, _, h1, h2, h3, v, L, rfl, h4, by rw [hh]; exact h5, h6⟩
section Rets
variable {Q : Option Value → Heap → List Loc → Prop} {k n pc : Nat} {Ls : Array Slot}
theorem oRetH (X : Stand p l e R (s.setVm vm) m args below meth c T locs cells slots) (hx : p.tables.exec = Jvm.exec) (hlk : meth.locks = false) (hZ : Z.Warmed39 (s.setVm vm).vm) (hEL : EW Z a0 EL) (e0 : T.heap = h) (B : oB Z EL s h0 vm h) {w : Value} {t : FieldType} {i : Instr} {rest : List Value} (hret : meth.sig.returnType = some t) (hn : narrow t w = w)
    (hi : (i = .ireturn ∧ (t = .int ∨ t = .boolean ∨ t = .byte ∨ t = .char ∨ t = .short) ∧ ∃ z, w = .int z) ∨ (i = .lreturn ∧ t = .long ∧ ∃ z, w = .long z) ∨ (i = .dreturn ∧ t = .double ∧ ∃ z, w = .double z) ∨ (i = .freturn ∧ t = .float ∧ ∃ z, w = .float z) ∨ (i = .areturn ∧ t.isReference = true ∧ w.isRef = true))
    (hd : decode c.code pc = .ok (i, 1)) (hQ : Q (some w) T.heap locs) (hk : cells ≤ k) (hs : slots ≤ n) : oWk p.tables e below (oDnH Z EL s h0 below Q k n) T (mkF m pc Ls (w :: rest)) := by
  obtain ⟨⟨k0, hS, hk0⟩, C⟩ := B
  obtain ⟨fs, hr, hrun, hended, hW⟩ := X.leaveW hS (by rw [e0]; exact hk0) (v := some w) (fun h => by rw [hret] at h; cases h) hlk
  have C2 := C.trans (CHv.at X hZ hEL C.1)
  refine ⟨_, retOut X hx hret hn hi hd hr, hrun, _, _, hended, hQ, ?_, hW.1, hW.2.1, hW.2.2.1, hW.2.2.2.mono hk hs⟩
  show CHr Z EL s.vm h0 T.vm T.heap
  rw [e0]; exact C2
theorem oRetHV (X : Stand p l e R (s.setVm vm) m args below meth c T locs cells slots) (hx : p.tables.exec = Jvm.exec) (hlk : meth.locks = false) (hZ : Z.Warmed39 (s.setVm vm).vm) (hEL : EW Z a0 EL) (e0 : T.heap = h) (B : oB Z EL s h0 vm h) (hret : meth.sig.returnType = none) (hd : decode c.code pc = .ok (.return_, 1)) (hQ : Q none T.heap locs) (hk : cells ≤ k) (hs : slots ≤ n) :
    oWk p.tables e below (oDnH Z EL s h0 below Q k n) T (mkF m pc Ls []) := by
  obtain ⟨⟨k0, hS, hk0⟩, C⟩ := B
  obtain ⟨fs, hr, hrun, hended, hW⟩ := X.leaveW hS (by rw [e0]; exact hk0) (v := none) (fun _ => rfl) hlk
  have C2 := C.trans (CHv.at X hZ hEL C.1)
  refine ⟨_, X.returnOut hx hret hd hr, hrun, _, _, hended, hQ, ?_, hW.1, hW.2.1, hW.2.2.1, hW.2.2.2.mono hk hs⟩
  show CHr Z EL s.vm h0 T.vm T.heap
  rw [e0]; exact C2
end Rets
/-- a callee that may load String constants, by its contract -/
theorem oBackH {y : MethodName} {bytes : ByteArray} {maxL : Nat} {ret : Option FieldType} {rm : Room} {len W : Nat} {as' : Array Value} {Q : Option Value → Heap → List Loc → Prop} {sf : List Addr}
    (hM : oConH l Z EL y bytes maxL ret [] rm as' h sf Q) (hZ : Z.Warmed39 (s.setVm vm).vm) (wc : (Jvm.Cond.code y bytes maxL ret).before a0 Z = true) (wz : (Jvm.Cond.initialized y.cls).before a0 Z = true) (hf : rm.frames + 1 ≤ R.frames) (hl : W + (maxL + 11) + rm.locals ≤ R.locals) (hEL : EW Z a0 EL) (H : CHv Z EL vm h) (hs : ∀ x ∈ sf, x < h.size ∧ Safe Z EL vm h x) :
    BackS l R p e below (s.setVm vm) args y len W (fun A a => a = as' ∧ A.U.heap = h ∧ A.cells + rm.cells ≤ R.cells ∧ A.slots + rm.slots ≤ R.slots)
      (fun A _ v B => ∃ L, Q v B.U.heap L ∧ B.locs = A.locs ++ L ∧ B.cells = A.cells + rm.cells ∧ B.slots = A.slots + rm.slots ∧ CHr Z EL vm h B.U.vm B.U.heap) := by
  refine BackS.of_freeW (bytes := bytes) (maxL := maxL) (ret := ret) (E := fun _ first o t L k n => k = rm.cells ∧ n = rm.slots ∧ (∃ v, o = .returned v ∧ Q v t.heap L) ∧ CHr Z EL first.vm first.heap t.vm t.heap) hM hf hl ?_ ?_ (fun _ _ _ _ _ _ _ _ _ => trivial) ?_ ?_
  · intro m meth c A a Y hp
    have hU : Z.Warmed39 A.U.vm := wtrans (s := s.setVm vm) hZ Y.warmed
    exact ⟨by show (Cond.and _ .tt).before a A.U = true; rw [Cond.before_and, mv hU wc]; rfl, mv hU wc, mv hU wz, hp.2.2.1, hp.2.2.2⟩
  · intro m meth c A a g mk Y hp
    have D := CHv.at Y hZ hEL H
    exact ⟨hp.1, wtrans (s := s.setVm vm) hZ Y.warmed, hp.2.1, D.1, fun x hx => D.safe (hs x hx).1 (hs x hx).2⟩
  · rintro _ _ _ _ ⟨v, L, h1, h2, h3, h4⟩
    exact ⟨L, _, _, h4, rfl, rfl, ⟨v, h1, h2⟩, h3⟩
  · rintro m meth c A a g mk v t L k n Y hp _ _ ⟨e1, e2, ⟨v', e3, e4⟩, e5⟩
    cases e3; subst e1 e2
    refine ⟨L, e4, rfl, rfl, rfl, (CHv.at Y hZ hEL H).trans ?_⟩
    rw [← hp.2.1]; exact e5
/-- the tables behind such a call -/
theorem oB.call {U : State} (B : oB Z EL s h0 vm h) (hT : T.heap = h) (h2 : (s.setVm vm).Since U.vm U.heap.size) (g : T.heap.size ≤ U.heap.size) (C : CHr Z EL vm h U.vm U.heap) (e1 : U.heap = h') : oB Z EL s h0 U.vm h' := by
  subst e1
  obtain ⟨⟨k0, hS, hk0⟩, D⟩ := B
  exact ⟨⟨_, foldS (T := T) hS (by rw [hT]; exact hk0) h2 g, Nat.le_refl _⟩, D.trans C⟩
theorem oWide {U : State} {own : String} (hZ : Z.Warmed39 (s.setVm vm).vm) (hown : (s.setVm vm).vm.findClass own = some m.cls) (h2 : (s.setVm vm).Since U.vm U.heap.size) : Z.Warmed39 (s.setVm U.vm).vm ∧ (s.setVm U.vm).vm.findClass own = some m.cls :=
  ⟨State.Warmed39.trans (t := s.setVm vm) hZ h2.1, by show U.vm.findClass own = _; rw [h2.1.alike.findClass]; exact hown⟩
/-- ldc of a String constant, opaque -/
theorem oLdcO {own text : String} {index : Nat} (X : Stand p l e R (s.setVm vm) m args below meth c T locs cells slots) (hx : p.tables.exec = Jvm.exec) (hZ : Z.Warmed39 (s.setVm vm).vm) (hown : (s.setVm vm).vm.findClass own = some m.cls) (w : (Jvm.Cond.stringLink own index text).before a0 Z = true) (wS : ∀ a ∈ Bundle.stringAtoms, a.before a0 Z = true) (eT : T.heap = h) (hEL : EW Z a0 EL) (B : oB Z EL s h0 vm h)
    {g : JFrame} (hg : g.method = m) (hd : decode c.code g.pc = .ok (.ldc index, 2)) {n : Nat} (hn : 4 * text.toList.length ≤ n) (hbig : n ≤ 536870912) (hc : cells + 2 ≤ R.cells) (hl' : slots + (n + 4) ≤ R.slots) :
    ∃ (a : Addr) (T' : State) (h' : Heap), Stand p l e R (s.setVm T'.vm) m args below meth c T' locs (cells + 2) (slots + (n + 4)) ∧ T'.heap = h' ∧ Ext h h' ∧ Z.Warmed39 (s.setVm T'.vm).vm ∧ (s.setVm T'.vm).vm.findClass own = some m.cls ∧ oB Z EL s h0 T'.vm h' ∧ CHr Z EL vm h T'.vm h' ∧
      ∀ target, Steps p.tables e below (T'.setTop { g with pc := g.pc + 2, stack := .ref a :: g.stack }) target → Steps p.tables e below (T.setTop g) target := by
  obtain ⟨⟨k0, hS, hk0⟩, C⟩ := B
  obtain ⟨a, T', h', k1, X', e1, E, hS', hk1, hZ', hown', C', -, st⟩ := ldcOH X hx hZ hown w wS eT hS hk0 hEL C.1 hg hd hn hbig hc hl'
  exact ⟨a, T', h', X', e1, E, hZ', hown', ⟨⟨k1, hS', hk1⟩, C.trans C'⟩, C', st⟩
/-- ldc of a String constant of EL, read -/
theorem oLdcR {own text : String} {index : Nat} (X : Stand p l e R (s.setVm vm) m args below meth c T locs cells slots) (hx : p.tables.exec = Jvm.exec) (hZ : Z.Warmed39 (s.setVm vm).vm) (hown : (s.setVm vm).vm.findClass own = some m.cls) (w : (Jvm.Cond.stringLink own index text).before a0 Z = true) (wS : ∀ a ∈ Bundle.stringAtoms, a.before a0 Z = true) (eT : T.heap = h) (hEL : EW Z a0 EL) (hmem : (own, index) ∈ EL) (B : oB Z EL s h0 vm h)
    {vs : List Value} {z : Int32} (ht : (∀ c ∈ text.toList, c.toNat < 256) ∧ text.toList.map (fun c => Value.int (Jvm.Lit.byteI c.toNat.toUInt16)) = vs) (hz : ¬ z < 0) (hl : z.toNatClampNeg = vs.length)
    {g : JFrame} (hg : g.method = m) (hd : decode c.code g.pc = .ok (.ldc index, 2)) {n : Nat} (hn : 4 * text.toList.length ≤ n) (hbig : n ≤ 536870912) (hc : cells + 2 ≤ R.cells) (hl' : slots + (n + 4) ≤ R.slots) :
    ∃ (a : Addr) (T' : State) (h' : Heap) (b : Addr) (k : ClassId), Stand p l e R (s.setVm T'.vm) m args below meth c T' locs (cells + 2) (slots + (n + 4)) ∧ T'.heap = h' ∧ Ext h h' ∧ Z.Warmed39 (s.setVm T'.vm).vm ∧ (s.setVm T'.vm).vm.findClass own = some m.cls ∧ oB Z EL s h0 T'.vm h' ∧ CHr Z EL vm h T'.vm h' ∧
      Exa Z h' a "java/lang/String" ∧ Fld Z h' a "java/lang/String" "coder" "B" (.int 0) ∧ Fld Z h' a "java/lang/String" "value" "[B" (.ref b) ∧ Arv Z h' b k .byte z vs (.int 0) ∧ (∀ x, Safe Z EL T'.vm h' x → x ≠ a ∧ x ≠ b) ∧
      ∀ target, Steps p.tables e below (T'.setTop { g with pc := g.pc + 2, stack := .ref a :: g.stack }) target → Steps p.tables e below (T.setTop g) target := by
  obtain ⟨⟨k0, hS, hk0⟩, C⟩ := B
  obtain ⟨a, T', h', k1, b, k, X', e1, E, hS', hk1, hZ', hown', f1, f2, f3, f4, -, -, C', -, hne, st⟩ := ldcCH X hx hZ hown w wS eT hS hk0 hEL hmem C.1 ht hz hl hg hd hn hbig hc hl'
  exact ⟨a, T', h', b, k, X', e1, E, hZ', hown', ⟨⟨k1, hS', hk1⟩, C.trans C'⟩, C', f1, f2, f3, f4, hne, st⟩
end OwnH
/-- the sheet's words -/
abbrev oHW (a0 : Array Value) (Z : State) : Prop := ∀ d ∈ tables_1, d.before a0 Z = true
/-- a byte out of a char -/
abbrev ib (x : Int32) : Value := .int x.toInt8.toInt32
abbrev iu0 (x : Int32) : Value := .int (x >>> ((0 : Int32) &&& 31)).toInt8.toInt32
abbrev iu8 (x : Int32) : Value := .int (x >>> ((8 : Int32) &&& 31)).toInt8.toInt32
/-- a call's place: whoever stands there and has the callee's contract comes out behind it -/
def oCall (Z : State) (own : String) (i : Instr) (y : MethodName) (bytes : ByteArray) (maxL : Nat) (ret : Option FieldType) (P : Heap → List Value → Prop) : Prop :=
  ∀ (p : Program) (l : Launch) (e : Env) (R : Room) (s : State) (m : MethodId) (args : Array Value) (below : List Frame) (meth : Method) (c : Code) (T : State) (locs : List Loc) (cells slots : Nat) (h : Heap) (rm : Room) (Q : Option Value → Heap → List Loc → Prop) (pc W : Nat) (Ls : Array Slot) (S rest A : List Value),
    Stand p l e R s m args below meth c T locs cells slots → p.tables.exec = Jvm.exec → Z.Warmed39 s.vm → s.vm.findClass own = some m.cls → T.heap = h → P h A → oCon l Z y bytes maxL ret [] rm A.toArray h Q →
    (rm.frames + 1 ≤ R.frames ∧ W + (maxL + 11) + rm.locals ≤ R.locals ∧ cells + rm.cells ≤ R.cells ∧ slots + rm.slots ≤ R.slots) → Ls.size = c.maxLocals → S = A.reverse ++ rest → (rest.map fun v => v.category).sum = W → decode c.code pc = .ok (i, 3) →
    ∃ (v : Option Value) (T' : State) (L : List Loc), Stand p l e R s m args below meth c T' (locs ++ L) (cells + rm.cells) (slots + rm.slots) ∧ Q v T'.heap L ∧ ∀ t, Steps p.tables e below (T'.setTop (mkF m (pc + 3) Ls (v.toList ++ rest))) t → Steps p.tables e below (T.setTop (mkF m pc Ls S)) t
/-- what a call answers that leaves the heap as it is -/
def oPq (w : Option Value) (h0 : Heap) (v : Option Value) (h : Heap) (L : List Loc) : Prop := v = w ∧ h = h0 ∧ oKp h0 h [] L
section OwnK
variable {Z : State} {a0 : Array Value} {own C : String} {index : Nat} {y z : MethodName} {bytes : ByteArray} {maxL : Nat} {ret : Option FieldType} {ps : List FieldType} {r : Option FieldType}
abbrev oRv (Z : State) (n : Nat) (C : String) (h : Heap) (A : List Value) : Prop := A.length = n + 1 ∧ ∃ o B, A = .ref o :: B ∧ Exa Z h o C
abbrev oRi (n : Nat) (_ : Heap) (A : List Value) : Prop := A.length = n + 1 ∧ ∃ (o : Addr) (B : List Value), A = .ref o :: B
abbrev oRs (n : Nat) (_ : Heap) (A : List Value) : Prop := A.length = n
theorem oLenOf {d : String} (hd : parseMethodDescriptor d = some ⟨ps, r⟩) {L : List Value} (hl : L.length = ps.length) : ∀ sig, parseMethodDescriptor d = some sig → L.length = sig.parameters.length := lenOf hd hl
theorem oCall.stat (w1 : (Jvm.Cond.methodLink own index y).before a0 Z = true) (w2 : (Jvm.Cond.static y).before a0 Z = true) (w3 : (Jvm.Cond.initialized y.cls).before a0 Z = true) (w4 : (Jvm.Cond.code y bytes maxL ret).before a0 Z = true) (hy : y.cls ≠ "java/lang/invoke/MethodHandle" ∧ y.cls ≠ "java/lang/invoke/VarHandle") (hd : parseMethodDescriptor y.desc = some ⟨ps, r⟩) :
    oCall Z own (.invokestatic index) y bytes maxL ret (oRs ps.length) := by
  intro p l e R s m args below meth c T locs cells slots h rm Q pc W Ls S rest A X hx hZ hown e0 hP con hN hsz hS hW hdg
  obtain ⟨v, _, ⟨T', L', k', n'⟩, -, X', ⟨L, hQ, l1, y1, z1⟩, st⟩ := Jvm.LawKit.callS X hx (y := y) hown (mvT hZ w1) (mvT hZ w2) (mvT hZ w3) (mvT hZ w4) hy (backOf (W := W) con hZ w4 w3 hN.1 hN.2.1) (g := mkF m pc Ls S) rfl hsz (argsL := A) (rest := rest) (lenOf hd hP) hS (by show 2 * 0 + _ ≤ W; rw [hW, Nat.mul_zero, Nat.zero_add]; exact Nat.le_refl _) hdg (fun _ _ => ⟨rfl, e0, hN.2.2.1, hN.2.2.2⟩)
  dsimp only [Pt.U, Pt.locs, Pt.cells, Pt.slots] at X' l1 y1 z1 st hQ
  subst l1 y1 z1
  exact ⟨v, T', L, X', hQ, st⟩
theorem oCall.init (h1 : y.name = "<init>") (w1 : (Jvm.Cond.methodLink own index y).before a0 Z = true) (w2 : (Jvm.Cond.instanceMethod y).before a0 Z = true) (w3 : (Jvm.Cond.initialized y.cls).before a0 Z = true) (w4 : (Jvm.Cond.code y bytes maxL none).before a0 Z = true) (hy : y.cls ≠ "java/lang/invoke/MethodHandle" ∧ y.cls ≠ "java/lang/invoke/VarHandle") (hd : parseMethodDescriptor y.desc = some ⟨ps, r⟩) :
    oCall Z own (.invokespecial index) y bytes maxL none (oRi ps.length) := by
  intro p l e R s m args below meth c T locs cells slots h rm Q pc W Ls S rest A X hx hZ hown e0 hP con hN hsz hS hW hdg
  obtain ⟨hl, o, B, rfl⟩ := hP
  obtain ⟨v, _, ⟨T', L', k', n'⟩, -, X', ⟨L, hQ, l1, y1, z1⟩, st⟩ := X.specialBack hx (y := y) h1 hown (mvT hZ w1) (mvT hZ w2) (mvT hZ w4) hy (backOf (W := W) con hZ w4 w3 hN.1 hN.2.1) (g := mkF m pc Ls S) rfl hsz (Steps.refl _) (a := o) (argsL := B) (rest := rest) (lenOf hd (Nat.succ.inj hl)) (by rw [show (mkF m pc Ls S).stack = S from rfl, hS, List.reverse_cons, List.append_assoc]; rfl) (by show 2 * 0 + _ ≤ W; rw [hW, Nat.mul_zero, Nat.zero_add]; exact Nat.le_refl _) hdg (fun _ _ => ⟨rfl, e0, hN.2.2.1, hN.2.2.2⟩)
  dsimp only [Pt.U, Pt.locs, Pt.cells, Pt.slots] at X' l1 y1 z1 st hQ
  subst l1 y1 z1
  exact ⟨v, T', L, X', hQ, fun t k => st.trans k⟩
theorem oCall.initN {host : String} (h1 : y.name = "<init>") (w1 : (Jvm.Cond.methodLinkNest own index y host).before a0 Z = true) (w2 : (Jvm.Cond.instanceMethod y).before a0 Z = true) (w3 : (Jvm.Cond.initialized y.cls).before a0 Z = true) (w4 : (Jvm.Cond.code y bytes maxL none).before a0 Z = true) (hy : y.cls ≠ "java/lang/invoke/MethodHandle" ∧ y.cls ≠ "java/lang/invoke/VarHandle") (hd : parseMethodDescriptor y.desc = some ⟨ps, r⟩) :
    oCall Z own (.invokespecial index) y bytes maxL none (oRi ps.length) := by
  intro p l e R s m args below meth c T locs cells slots h rm Q pc W Ls S rest A X hx hZ hown e0 hP con hN hsz hS hW hdg
  obtain ⟨hl, o, B, rfl⟩ := hP
  obtain ⟨v, _, ⟨T', L', k', n'⟩, -, X', ⟨L, hQ, l1, y1, z1⟩, st⟩ := X.specialBackNest hx (y := y) h1 hown (oMvM hZ w1) (mvT hZ w2) (mvT hZ w4) hy (backOf (W := W) con hZ w4 w3 hN.1 hN.2.1) (g := mkF m pc Ls S) rfl hsz (Steps.refl _) (a := o) (argsL := B) (rest := rest) (lenOf hd (Nat.succ.inj hl)) (by rw [show (mkF m pc Ls S).stack = S from rfl, hS, List.reverse_cons, List.append_assoc]; rfl) (by show 2 * 0 + _ ≤ W; rw [hW, Nat.mul_zero, Nat.zero_add]; exact Nat.le_refl _) hdg (fun _ _ => ⟨rfl, e0, hN.2.2.1, hN.2.2.2⟩)
  dsimp only [Pt.U, Pt.locs, Pt.cells, Pt.slots] at X' l1 y1 z1 st hQ
  subst l1 y1 z1
  exact ⟨v, T', L, X', hQ, fun t k => st.trans k⟩
theorem oCall.virt (w1 : (Jvm.Cond.methodLink own index y).before a0 Z = true) (w2 : (Jvm.Cond.declares y).before a0 Z = true) (nf : ∀ s, Z.Warmed39 s.vm → NotFace s y) (w5 : (Jvm.Cond.selects C y z).before a0 Z = true) (w6 : (Jvm.Cond.instanceMethod z).before a0 Z = true) (w3 : (Jvm.Cond.initialized z.cls).before a0 Z = true) (w4 : (Jvm.Cond.code z bytes maxL ret).before a0 Z = true) (hy : y.cls ≠ "java/lang/invoke/MethodHandle" ∧ y.cls ≠ "java/lang/invoke/VarHandle") (hd : parseMethodDescriptor y.desc = some ⟨ps, r⟩) :
    oCall Z own (.invokevirtual index) z bytes maxL ret (oRv Z ps.length C) := by
  intro p l e R s m args below meth c T locs cells slots h rm Q pc W Ls S rest A X hx hZ hown e0 hP con hN hsz hS hW hdg
  obtain ⟨hl, o, B, rfl, E⟩ := hP
  obtain ⟨cq, kq, qa, qb, qc⟩ := isOf hZ e0 E
  obtain ⟨v, _, ⟨T', L', k', n'⟩, -, X', ⟨L, hQ, l1, y1, z1⟩, st⟩ := X.virtualBack hx (y := y) (z := z) hown (mvT hZ w1) (mvT hZ w2) (nf s hZ) (mvT hZ w5) (mvT hZ w6) hy (backOf (W := W) con hZ w4 w3 hN.1 hN.2.1) qa qc (g := mkF m pc Ls S) rfl hsz (Steps.refl _) (argsL := B) (rest := rest) (lenOf hd (Nat.succ.inj hl)) (by rw [show (mkF m pc Ls S).stack = S from rfl, hS, List.reverse_cons, List.append_assoc]; rfl) (by show 2 * 0 + _ ≤ W; rw [hW, Nat.mul_zero, Nat.zero_add]; exact Nat.le_refl _) hdg (fun _ _ => ⟨rfl, e0, hN.2.2.1, hN.2.2.2⟩)
  dsimp only [Pt.U, Pt.locs, Pt.cells, Pt.slots] at X' l1 y1 z1 st hQ
  subst l1 y1 z1
  exact ⟨v, T', L, X', hQ, fun t k => st.trans k⟩
theorem oCall.priv (w1 : (Jvm.Cond.methodLink own index y).before a0 Z = true) (w2 : (Jvm.Cond.instanceMethod y).before a0 Z = true) (w5 : (Jvm.Cond.selects y.cls y y).before a0 Z = true) (w6 : (Jvm.Cond.privateMethod y).before a0 Z = true) (w3 : (Jvm.Cond.initialized y.cls).before a0 Z = true) (w4 : (Jvm.Cond.code y bytes maxL ret).before a0 Z = true) (hy : y.cls ≠ "java/lang/invoke/MethodHandle" ∧ y.cls ≠ "java/lang/invoke/VarHandle") (hd : parseMethodDescriptor y.desc = some ⟨ps, r⟩) (C : String) :
    oCall Z own (.invokevirtual index) y bytes maxL ret (oRv Z ps.length C) := by
  intro p l e R s m args below meth c T locs cells slots h rm Q pc W Ls S rest A X hx hZ hown e0 hP con hN hsz hS hW hdg
  obtain ⟨hl, o, B, rfl, E⟩ := hP
  obtain ⟨cq, qa, qb⟩ := E.cell
  obtain ⟨v, _, ⟨T', L', k', n'⟩, -, X', ⟨L, hQ, l1, y1, z1⟩, st⟩ := X.privateBack hx (y := y) hown (mvT hZ w1) (mvT hZ w2) (mvT hZ w5) (Cond.privateMethod_at (mvP hZ w6 (args := #[]))) (mvT hZ w4) hy (backOf (W := W) con hZ w4 w3 hN.1 hN.2.1) (g := mkF m pc Ls S) rfl hsz (Steps.refl _) (a := o) (by rw [e0]; exact qa) qb (argsL := B) (rest := rest) (lenOf hd (Nat.succ.inj hl)) (by rw [show (mkF m pc Ls S).stack = S from rfl, hS, List.reverse_cons, List.append_assoc]; rfl) (by show 2 * 0 + _ ≤ W; rw [hW, Nat.mul_zero, Nat.zero_add]; exact Nat.le_refl _) hdg (fun _ _ => ⟨rfl, e0, hN.2.2.1, hN.2.2.2⟩)
  dsimp only [Pt.U, Pt.locs, Pt.cells, Pt.slots] at X' l1 y1 z1 st hQ
  subst l1 y1 z1
  exact ⟨v, T', L, X', hQ, fun t k => st.trans k⟩
variable {p : Program} {l : Launch} {e : Env} {R : Room} {s : State} {m : MethodId} {args : Array Value} {below : List Frame} {meth : Method} {c : Code} {T : State} {locs : List Loc} {cells slots : Nat} {h h0 : Heap} {rm : Room} {Q : Option Value → Heap → List Loc → Prop} {pc W ml : Nat} {Ls : Array Slot} {S rest A : List Value} {i : Instr} {P : Heap → List Value → Prop} {ws : List Addr} {w : Option Value} {bb : ByteArray}
/-- a call that leaves the heap as it is -/
theorem oCall.pure (H : oCall Z own i y bytes maxL ret P) (X : Stand p l e R s m args below meth c T locs cells slots) (hx : p.tables.exec = Jvm.exec) (hZ : Z.Warmed39 s.vm) (hown : s.vm.findClass own = some m.cls) (e0 : T.heap = h) (K : oKp h0 h ws locs) (hP : P h A) (con : oCon l Z y bytes maxL ret [] rm A.toArray h (oPq w h))
    (hN : rm.frames + 1 ≤ R.frames ∧ W + (maxL + 11) + rm.locals ≤ R.locals ∧ cells + rm.cells ≤ R.cells ∧ slots + rm.slots ≤ R.slots) (hml : c.maxLocals = ml) (hsz : Ls.size = ml) (hS : S = A.reverse ++ rest) (hW : (rest.map fun v => v.category).sum = W) (hby : c.code = bb) (hdg : decode bb pc = .ok (i, 3)) :
    ∃ (T' : State) (L : List Loc), Stand p l e R s m args below meth c T' (locs ++ L) (cells + rm.cells) (slots + rm.slots) ∧ T'.heap = h ∧ oKp h0 h ws (locs ++ L) ∧ ∀ t, Steps p.tables e below (T'.setTop (mkF m (pc + 3) Ls (w.toList ++ rest))) t → Steps p.tables e below (T.setTop (mkF m pc Ls S)) t := by
  obtain ⟨v, T', L, X', q, st⟩ := H _ _ _ _ _ _ _ _ _ _ _ _ _ _ _ _ _ _ _ _ _ _ _ X hx hZ hown e0 hP con hN (hsz.trans hml.symm) hS hW (hb hby hdg)
  obtain ⟨rfl, e1, K1⟩ := q
  rw [e1] at K1
  exact ⟨T', L, X', e1, K.call K1 all0, st⟩
/-- a call that may change it -/
theorem oCall.run (H : oCall Z own i y bytes maxL ret P) (X : Stand p l e R s m args below meth c T locs cells slots) (hx : p.tables.exec = Jvm.exec) (hZ : Z.Warmed39 s.vm) (hown : s.vm.findClass own = some m.cls) (e0 : T.heap = h) (hP : P h A) (con : oCon l Z y bytes maxL ret [] rm A.toArray h Q)
    (hN : rm.frames + 1 ≤ R.frames ∧ W + (maxL + 11) + rm.locals ≤ R.locals ∧ cells + rm.cells ≤ R.cells ∧ slots + rm.slots ≤ R.slots) (hml : c.maxLocals = ml) (hsz : Ls.size = ml) (hS : S = A.reverse ++ rest) (hW : (rest.map fun v => v.category).sum = W) (hby : c.code = bb) (hdg : decode bb pc = .ok (i, 3)) :
    ∃ (v : Option Value) (T' : State) (h' : Heap) (L : List Loc), Stand p l e R s m args below meth c T' (locs ++ L) (cells + rm.cells) (slots + rm.slots) ∧ T'.heap = h' ∧ Q v h' L ∧ ∀ t, Steps p.tables e below (T'.setTop (mkF m (pc + 3) Ls (v.toList ++ rest))) t → Steps p.tables e below (T.setTop (mkF m pc Ls S)) t := by
  obtain ⟨v, T', L, X', q, st⟩ := H _ _ _ _ _ _ _ _ _ _ _ _ _ _ _ _ _ _ _ _ _ _ _ X hx hZ hown e0 hP con hN (hsz.trans hml.symm) hS hW (hb hby hdg)
  exact ⟨v, T', _, L, X', rfl, q, st⟩
end OwnK
section OwnZ
variable {p : Program} {l : Launch} {e : Env} {R : Room} {s : State} {m : MethodId} {args : Array Value} {below : List Frame} {meth : Method} {c : Code} {T t : State} {locs : List Loc} {cells slots : Nat} {b : ByteArray} {g : JFrame} {x y : Int32} {v : Value} {rest : List Value} {k : Nat} {k4 : Fin 4} {i o : Int} {l' : Array Slot} {pc' : Nat} {cd : ClassFile.Cond}
theorem zA (X : Stand p l e R s m args below meth c T locs cells slots) (hx : p.tables.exec = Jvm.exec) (hby : c.code = b) (hd : decode b g.pc = .ok (.aload_n k4, 1)) (hg : g.method = m) (h0 : g.locals[k4.val]? = some (.val v)) (h1 : v.isRef = true) (hr : Steps p.tables e below (T.setTop { g with pc := g.pc + 1, stack := v :: g.stack }) t) : Steps p.tables e below (T.setTop g) t := XS.aloadN X.here hx hg (hb hby hd) h0 h1 hr
theorem zI (X : Stand p l e R s m args below meth c T locs cells slots) (hx : p.tables.exec = Jvm.exec) (hby : c.code = b) (hd : decode b g.pc = .ok (.iload_n k4, 1)) (hg : g.method = m) (h0 : g.locals[k4.val]? = some (.val (.int x))) (hr : Steps p.tables e below (T.setTop { g with pc := g.pc + 1, stack := .int x :: g.stack }) t) : Steps p.tables e below (T.setTop g) t := XS.iloadN X.here hx hg (hb hby hd) h0 hr
theorem zB (X : Stand p l e R s m args below meth c T locs cells slots) (hx : p.tables.exec = Jvm.exec) (hby : c.code = b) (hd : decode b g.pc = .ok (.aload k, 2)) (hg : g.method = m) (h0 : g.locals[k]? = some (.val v)) (h1 : v.isRef = true) (hr : Steps p.tables e below (T.setTop { g with pc := g.pc + 2, stack := v :: g.stack }) t) : Steps p.tables e below (T.setTop g) t := XS.aload X.here hx hg (hb hby hd) h0 h1 hr
theorem zJ (X : Stand p l e R s m args below meth c T locs cells slots) (hx : p.tables.exec = Jvm.exec) (hby : c.code = b) (hd : decode b g.pc = .ok (.iload k, 2)) (hg : g.method = m) (h0 : g.locals[k]? = some (.val (.int x))) (hr : Steps p.tables e below (T.setTop { g with pc := g.pc + 2, stack := .int x :: g.stack }) t) : Steps p.tables e below (T.setTop g) t := XS.iload X.here hx hg (hb hby hd) h0 hr
theorem zK (X : Stand p l e R s m args below meth c T locs cells slots) (hx : p.tables.exec = Jvm.exec) (hby : c.code = b) (hd : decode b g.pc = .ok (.iconst i, 1)) (hg : g.method = m)  (hr : Steps p.tables e below (T.setTop { g with pc := g.pc + 1, stack := .int (Int32.ofInt i) :: g.stack }) t) : Steps p.tables e below (T.setTop g) t := XS.iconst X.here hx hg (hb hby hd) hr
theorem zL (X : Stand p l e R s m args below meth c T locs cells slots) (hx : p.tables.exec = Jvm.exec) (hby : c.code = b) (hd : decode b g.pc = .ok (.bipush i, 2)) (hg : g.method = m)  (hr : Steps p.tables e below (T.setTop { g with pc := g.pc + 2, stack := .int (Int8.ofInt i).toInt32 :: g.stack }) t) : Steps p.tables e below (T.setTop g) t := XS.bipush X.here hx hg (hb hby hd) hr
theorem zM (X : Stand p l e R s m args below meth c T locs cells slots) (hx : p.tables.exec = Jvm.exec) (hby : c.code = b) (hd : decode b g.pc = .ok (.sipush i, 3)) (hg : g.method = m)  (hr : Steps p.tables e below (T.setTop { g with pc := g.pc + 3, stack := .int (Int16.ofInt i).toInt32 :: g.stack }) t) : Steps p.tables e below (T.setTop g) t := XS.sipush X.here hx hg (hb hby hd) hr
theorem zS (X : Stand p l e R s m args below meth c T locs cells slots) (hx : p.tables.exec = Jvm.exec) (hby : c.code = b) (hd : decode b g.pc = .ok (.istore k, 2)) (hg : g.method = m) (h0 : g.stack = .int x :: rest) (h1 : storeLocals g.locals k (.int x) = some l') (hr : Steps p.tables e below (T.setTop { g with pc := g.pc + 2, locals := l', stack := rest }) t) : Steps p.tables e below (T.setTop g) t := XS.istore X.here hx hg (hb hby hd) h0 h1 hr
theorem zSn (X : Stand p l e R s m args below meth c T locs cells slots) (hx : p.tables.exec = Jvm.exec) (hby : c.code = b) (hd : decode b g.pc = .ok (.istore_n k4, 1)) (hg : g.method = m) (h0 : g.stack = .int x :: rest) (h1 : storeLocals g.locals k4.val (.int x) = some l') (hr : Steps p.tables e below (T.setTop { g with pc := g.pc + 1, locals := l', stack := rest }) t) : Steps p.tables e below (T.setTop g) t := XS.istoreN X.here hx hg (hb hby hd) h0 h1 hr
theorem zT (X : Stand p l e R s m args below meth c T locs cells slots) (hx : p.tables.exec = Jvm.exec) (hby : c.code = b) (hd : decode b g.pc = .ok (.astore k, 2)) (hg : g.method = m) (h0 : g.stack = v :: rest) (h1 : v.isRef = true) (h2 : storeLocals g.locals k v = some l') (hr : Steps p.tables e below (T.setTop { g with pc := g.pc + 2, locals := l', stack := rest }) t) : Steps p.tables e below (T.setTop g) t := XS.astore X.here hx hg (hb hby hd) h0 h1 h2 hr
theorem zTn (X : Stand p l e R s m args below meth c T locs cells slots) (hx : p.tables.exec = Jvm.exec) (hby : c.code = b) (hd : decode b g.pc = .ok (.astore_n k4, 1)) (hg : g.method = m) (h0 : g.stack = v :: rest) (h1 : v.isRef = true) (h2 : storeLocals g.locals k4.val v = some l') (hr : Steps p.tables e below (T.setTop { g with pc := g.pc + 1, locals := l', stack := rest }) t) : Steps p.tables e below (T.setTop g) t := XS.astoreN X.here hx hg (hb hby hd) h0 h1 h2 hr
theorem zG (X : Stand p l e R s m args below meth c T locs cells slots) (hx : p.tables.exec = Jvm.exec) (hby : c.code = b) (hd : decode b g.pc = .ok (.goto o, 3)) (hg : g.method = m)  (hj : (g.pc : Int) + o = (pc' : Int)) (hr : Steps p.tables e below (T.setTop { g with pc := pc' }) t) : Steps p.tables e below (T.setTop g) t := XS.goto X.here hx hg rfl (hb hby hd) (by rw [hj]; exact Int.natCast_nonneg _) (by rw [hj]; exact Int.toNat_natCast _) hr
theorem zY (X : Stand p l e R s m args below meth c T locs cells slots) (hx : p.tables.exec = Jvm.exec) (hby : c.code = b) (hd : decode b g.pc = .ok (.if_icmp cd o, 3)) (hg : g.method = m) (h0 : g.stack = .int y :: .int x :: rest) (h1 : if_icmp.holds cd x y = true) (hj : (g.pc : Int) + o = (pc' : Int)) (hr : Steps p.tables e below (T.setTop { g with pc := pc', stack := rest }) t) : Steps p.tables e below (T.setTop g) t := XS.icmpYes X.here hx hg rfl (hb hby hd) h0 h1 (by rw [hj]; exact Int.natCast_nonneg _) (by rw [hj]; exact Int.toNat_natCast _) hr
theorem zN (X : Stand p l e R s m args below meth c T locs cells slots) (hx : p.tables.exec = Jvm.exec) (hby : c.code = b) (hd : decode b g.pc = .ok (.if_icmp cd o, 3)) (hg : g.method = m) (h0 : g.stack = .int y :: .int x :: rest) (h1 : if_icmp.holds cd x y = false) (hr : Steps p.tables e below (T.setTop { g with pc := g.pc + 3, stack := rest }) t) : Steps p.tables e below (T.setTop g) t := XS.icmpNo X.here hx hg (hb hby hd) h0 h1 hr
theorem zF (X : Stand p l e R s m args below meth c T locs cells slots) (hx : p.tables.exec = Jvm.exec) (hby : c.code = b) (hd : decode b g.pc = .ok (.ifCond cd o, 3)) (hg : g.method = m) (h0 : g.stack = .int x :: rest) (h1 : ifCond.holds cd x = true) (hj : (g.pc : Int) + o = (pc' : Int)) (hr : Steps p.tables e below (T.setTop { g with pc := pc', stack := rest }) t) : Steps p.tables e below (T.setTop g) t := XS.ifYes X.here hx hg rfl (hb hby hd) h0 h1 (by rw [hj]; exact Int.natCast_nonneg _) (by rw [hj]; exact Int.toNat_natCast _) hr
theorem zH (X : Stand p l e R s m args below meth c T locs cells slots) (hx : p.tables.exec = Jvm.exec) (hby : c.code = b) (hd : decode b g.pc = .ok (.ifCond cd o, 3)) (hg : g.method = m) (h0 : g.stack = .int x :: rest) (h1 : ifCond.holds cd x = false) (hr : Steps p.tables e below (T.setTop { g with pc := g.pc + 3, stack := rest }) t) : Steps p.tables e below (T.setTop g) t := XS.ifNo X.here hx hg (hb hby hd) h0 h1 hr
theorem zC (X : Stand p l e R s m args below meth c T locs cells slots) (hx : p.tables.exec = Jvm.exec) (hby : c.code = b) (hd : decode b g.pc = .ok (.iinc k i, 3)) (hg : g.method = m) (h0 : g.locals[k]? = some (.val (.int x))) (h1 : storeLocals g.locals k (.int (x + Int32.ofInt i)) = some l') (hr : Steps p.tables e below (T.setTop { g with pc := g.pc + 3, locals := l' }) t) : Steps p.tables e below (T.setTop g) t := XS.iinc X.here hx hg (hb hby hd) h0 h1 hr
theorem zD (X : Stand p l e R s m args below meth c T locs cells slots) (hx : p.tables.exec = Jvm.exec) (hby : c.code = b) (hd : decode b g.pc = .ok (.dup, 1)) (hg : g.method = m) (h0 : g.stack = v :: rest) (h1 : v.category = 1) (hr : Steps p.tables e below (T.setTop { g with pc := g.pc + 1, stack := v :: v :: rest }) t) : Steps p.tables e below (T.setTop g) t := XS.dup X.here hx hg (hb hby hd) h0 h1 hr
end OwnZ
section OwnL
variable {p : Program} {l : Launch} {e : Env} {R : Room} {s : State} {m : MethodId} {args : Array Value} {below : List Frame} {meth : Method} {c : Code} {T t : State} {locs : List Loc} {cells slots : Nat} {b : ByteArray} {g : JFrame} {Z : State} {h : Heap} {a : Addr} {k : ClassId} {n : Int32} {vs : List Value} {dv : Value} {ty : FieldType} {rest : List Value}
theorem oAl (X : Stand p l e R s m args below meth c T locs cells slots) (hx : p.tables.exec = Jvm.exec) (hZ : Z.Warmed39 s.vm) (e0 : T.heap = h) (V : Arv Z h a k ty n vs dv) (hby : c.code = b) (hd : decode b g.pc = .ok (.arraylength, 1)) (hg : g.method = m) (hs : g.stack = .ref a :: rest) (hr : Steps p.tables e below (T.setTop { g with pc := g.pc + 1, stack := .int n :: rest }) t) : Steps p.tables e below (T.setTop g) t := by
  obtain ⟨cl, Ar, q, Sz, Nn, Hs, Ft⟩ := V
  exact X.arraylength hx (by rw [e0]; exact Ar.1) (State.isArrayOf_alike hZ.alike Ar.2.1) hg hs (hb hby hd) _ (by rw [len_of Sz Nn]; exact hr)
theorem oLdB (X : Stand p l e R s m args below meth c T locs cells slots) (hx : p.tables.exec = Jvm.exec) (hZ : Z.Warmed39 s.vm) (e0 : T.heap = h) (V : Arv Z h a k .byte n vs dv) (j : Int32) (v : Value) (hj : ¬ j < 0 ∧ j < n) (hv : vs.getD j.toNatClampNeg dv = v) (hby : c.code = b) (hd : decode b g.pc = .ok (.baload, 1)) (hg : g.method = m) (hs : g.stack = .int j :: .ref a :: rest) (hr : Steps p.tables e below (T.setTop { g with pc := g.pc + 1, stack := v :: rest }) t) : Steps p.tables e below (T.setTop g) t := by
  obtain ⟨cl, Ar, q, Sz, Nn, Hs, Ft⟩ := V
  exact X.baloadBytes hx (by rw [e0]; exact Ar.1) (State.isArrayOf_alike hZ.alike Ar.2.1) Ar.2.2 (inb_of Sz hj) (Hs.at (inb_of Sz hj) hv) hg hs (hb hby hd) _ hr
theorem oLdC (X : Stand p l e R s m args below meth c T locs cells slots) (hx : p.tables.exec = Jvm.exec) (hZ : Z.Warmed39 s.vm) (e0 : T.heap = h) (V : Arv Z h a k .char n vs dv) (j : Int32) (v : Value) (hj : ¬ j < 0 ∧ j < n) (hv : vs.getD j.toNatClampNeg dv = v) (hby : c.code = b) (hd : decode b g.pc = .ok (.caload, 1)) (hg : g.method = m) (hs : g.stack = .int j :: .ref a :: rest) (hr : Steps p.tables e below (T.setTop { g with pc := g.pc + 1, stack := v :: rest }) t) : Steps p.tables e below (T.setTop g) t := by
  obtain ⟨cl, Ar, q, Sz, Nn, Hs, Ft⟩ := V
  exact X.caload hx (by rw [e0]; exact Ar.1) (State.isArrayOf_alike hZ.alike Ar.2.1) Ar.2.2 (inb_of Sz hj) (Hs.at (inb_of Sz hj) hv) hg hs (hb hby hd) _ hr
theorem oLdR (X : Stand p l e R s m args below meth c T locs cells slots) (hx : p.tables.exec = Jvm.exec) (hZ : Z.Warmed39 s.vm) (e0 : T.heap = h) {C : String} (V : Arv Z h a k (.object C) n vs dv) (j : Int32) (v : Value) (hj : ¬ j < 0 ∧ j < n) (hv : vs.getD j.toNatClampNeg dv = v) (hby : c.code = b) (hd : decode b g.pc = .ok (.aaload, 1)) (hg : g.method = m) (hs : g.stack = .int j :: .ref a :: rest) (hr : Steps p.tables e below (T.setTop { g with pc := g.pc + 1, stack := v :: rest }) t) : Steps p.tables e below (T.setTop g) t := by
  obtain ⟨cl, Ar, q, Sz, Nn, Hs, Ft⟩ := V
  exact X.aaload hx (by rw [e0]; exact Ar.1) (State.isArrayOf_alike hZ.alike Ar.2.1) rfl Ar.2.2 (inb_of Sz hj) (Hs.at (inb_of Sz hj) hv) hg hs (hb hby hd) _ hr
end OwnL
abbrev Y0 : String := "java/lang/String"
abbrev Y1 : String := "java/lang/StringUTF16"
abbrev Y2 : String := "COMPACT_STRINGS"
abbrev Y3 : String := "$assertionsDisabled"
abbrev Y4 : String := "jdk/internal/util/Preconditions"
abbrev Y5 : String := "SIOOBE_FORMATTER"
abbrev Y6 : String := "Ljava/util/function/BiFunction;"
abbrev Y7 : String := "com/example/congruent/congruent/graph/CodePointOrderComparePinLaw"
abbrev Y8 : String := "com/example/congruent/congruent/graph/CodePointOrder"
def oEL : List (String × Nat) := [(Y0, 7)]
theorem oTx0 : (∀ c ∈ "".toList, c.toNat < 256) ∧ "".toList.map (fun c => Value.int (Jvm.Lit.byteI c.toNat.toUInt16)) = [] := ⟨by decide, by decide +kernel⟩
theorem oELw {a0 : Array Value} {Z : State} (hw : ∀ d ∈ tables_1, d.before a0 Z = true) : EW Z a0 oEL := (EW.cons (oW hw 27 rfl) oTx0.1 EW.nil)
theorem oSAin : ∀ a ∈ Bundle.stringAtoms, a ∈ tables_1 := by decide +kernel
theorem oSA {a0 : Array Value} {Z : State} (hw : ∀ d ∈ tables_1, d.before a0 Z = true) : ∀ a ∈ Bundle.stringAtoms, a.before a0 Z = true := fun a ha => hw a (oSAin a ha)
theorem oB8 (x : Int32) : x.toInt8.toInt32.toInt8.toInt32 = x.toInt8.toInt32 := by rw [Int8.toInt8_toInt32]
theorem oB8inj {x y : Int32} (hx : 0 ≤ x.toInt ∧ x.toInt < 256) (hy : 0 ≤ y.toInt ∧ y.toInt < 256) (h : x.toInt8.toInt32 = y.toInt8.toInt32) : x = y := by
  have a := c_i2b x
  have b := c_i2b y
  rw [h] at a
  apply Int32.toInt_inj.mp
  omega
theorem oCmp {P R : Prop} [Decidable P] [Decidable R] (h : P ↔ R) : oBi P = oBi R := by
  by_cases q : P
  · rw [oBi_t q, oBi_t (h.mp q)]
  · rw [oBi_f q, oBi_f (fun r => q (h.mpr r))]
theorem oM255 (x : Int32) : 0 ≤ (x &&& 255).toInt ∧ (x &&& 255).toInt < 256 := by
  have q := c_mask x 255 8 (by decide) (by decide)
  omega
theorem oChr {x : Int32} (h : 0 ≤ x.toInt ∧ x.toInt < 256) : x.toUInt32.toUInt16.toUInt32.toInt32 = x := by
  have a := c_i2c x
  apply Int32.toInt_inj.mp
  omega
theorem oLe255 {x : Int32} (h : 0 ≤ x.toInt ∧ x.toInt < 256) : ¬ (255 : Int32) < x := fun q => by
  have r : (255 : Int32).toInt < x.toInt := Int32.lt_iff_toInt_lt.mp q
  have s : (255 : Int32).toInt = 255 := by decide
  omega
theorem oBk {x : Int32} (h : 0 ≤ x.toInt ∧ x.toInt < 256) : (x.toInt8.toInt32 &&& 255).toUInt32.toUInt16.toUInt32.toInt32 = x := by
  have a := c_i2b x
  have b := c_mask x.toInt8.toInt32 255 8 (by decide) (by decide)
  rw [oChr (by omega)]
  apply Int32.toInt_inj.mp
  omega
theorem oCat {v : Value} (h : v.isRef = true) : v.category = 1 := by cases v <;> simp_all [Value.isRef, Value.category]
theorem oChrU {x : Int32} (h : 0 ≤ x.toInt ∧ x.toInt < 65536) : x.toUInt32.toUInt16.toUInt32.toInt32 = x := by
  have a := c_i2c x
  apply Int32.toInt_inj.mp
  omega
theorem oM16 (x : Int32) : 0 ≤ (x &&& 65535).toInt ∧ (x &&& 65535).toInt < 65536 := by
  have q := c_mask x 65535 16 (by decide) (by decide)
  omega
theorem oU16 {x : Int32} (h : 0 ≤ x.toInt ∧ x.toInt < 65536) : (((x >>> ((0 : Int32) &&& 31)).toInt8.toInt32 &&& 255) <<< ((0 : Int32) &&& 31) ||| ((x >>> ((8 : Int32) &&& 31)).toInt8.toInt32 &&& 255) <<< ((8 : Int32) &&& 31)).toUInt32.toUInt16.toUInt32.toInt32 = x := by
  have a1 := c_ishr x 0 0 (by decide)
  have a2 := c_ishr x 8 8 (by decide)
  have b1 := c_i2b (x >>> ((0 : Int32) &&& 31))
  have b2 := c_i2b (x >>> ((8 : Int32) &&& 31))
  have m1 := c_mask (x >>> ((0 : Int32) &&& 31)).toInt8.toInt32 255 8 (by decide) (by decide)
  have m2 := c_mask (x >>> ((8 : Int32) &&& 31)).toInt8.toInt32 255 8 (by decide) (by decide)
  generalize (x >>> ((0 : Int32) &&& 31)).toInt8.toInt32 &&& 255 = B0 at *
  generalize (x >>> ((8 : Int32) &&& 31)).toInt8.toInt32 &&& 255 = B1 at *
  have s1 := c_ishl B0 0 0 (by decide)
  have s2 := c_ishl B1 8 8 (by decide)
  have r1 := rng32 (B0 <<< ((0 : Int32) &&& 31))
  have r2 := rng32 (B1 <<< ((8 : Int32) &&& 31))
  have o := c_or' (B0 <<< ((0 : Int32) &&& 31)) (B1 <<< ((8 : Int32) &&& 31)) 8 (by decide) 256 rfl (by omega) (by omega) (by omega)
  have i := c_i2c (B0 <<< ((0 : Int32) &&& 31) ||| B1 <<< ((8 : Int32) &&& 31))
  apply Int32.toInt_inj.mp
  omega
theorem oStI {args : Array Value} {Z : State} {C n d : String} {k : Int32} (h : (Jvm.Cond.eq (.static C n d) (.int k)).value args Z none Z [] = some true) : (Term.static C n d).eval args Z none [] Z = some (.int k) := by
  obtain ⟨x, y, e1, e2, k1, k2⟩ := cmp_v (Or.inl h)
  cases (Option.some.inj e2 : Value.int k = y)
  obtain ⟨z, rfl⟩ := (k2 : ∃ z, x = .int z)
  have q : z = k := by
    have h' := h
    simp only [Cond.value, e1, e2] at h'
    simpa using h'
  subst q
  exact e1

/-- the plain law of a638-m2-1 -/
abbrev oSur (c : Int32) : Prop := ¬ c < (55296 : Int32) ∧ c < (57344 : Int32)
def oHi (c : Int32) : Int32 := (55296 : Int32) + (((c - (65536 : Int32)).toUInt32 >>> ((10 : Int32) &&& 31).toUInt32).toInt32)
def oLo (c : Int32) : Int32 := (56320 : Int32) + ((c - (65536 : Int32)) &&& (1023 : Int32))
def oEnc (c : Int32) : List Int32 := if c < (65536 : Int32) then [c] else [oHi c, oLo c]
def oCp (c : Int32) : Prop := 0 ≤ c.toInt ∧ c.toInt < 1114112 ∧ (c.toInt < 55296 ∨ 57344 ≤ c.toInt)
theorem oEnc_b {c : Int32} (h : c < (65536 : Int32)) : oEnc c = [c] := if_pos h
theorem oEnc_s {c : Int32} (h : ¬ c < (65536 : Int32)) : oEnc c = [oHi c, oLo c] := if_neg h
def oCmpL : List Int32 → List Int32 → Int32
  | [], [] => 0
  | [], _ :: _ => -1
  | _ :: _, [] => 1
  | x :: s, y :: t => if x = y then oCmpL s t else if oBi (oSur x) = oBi (oSur y) then x - y else if oSur x then 1 else -1
def oSgn (x : Int32) : Int32 := if (0 : Int32) < x then 1 else if x < (0 : Int32) then -1 else 0
def oRef (n1 a1 a2 n2 b1 b2 : Int32) : Int32 :=
  if (0 : Int32) < n1 ∧ (0 : Int32) < n2 ∧ ¬ a1 = b1 then (if a1 < b1 then -1 else 1)
  else if (0 : Int32) < n1 ∧ (0 : Int32) < n2 ∧ (1 : Int32) < n1 ∧ (1 : Int32) < n2 ∧ ¬ a2 = b2 then (if a2 < b2 then -1 else 1)
  else if n1 < n2 then -1 else if n2 < n1 then 1 else 0
theorem oCmpL_eq {x y : Int32} {s t : List Int32} (h : x = y) : oCmpL (x :: s) (y :: t) = oCmpL s t := by rw [oCmpL, if_pos h]
theorem oCmpL_ne {x y : Int32} {s t : List Int32} (h : ¬ x = y) : oCmpL (x :: s) (y :: t) = if oBi (oSur x) = oBi (oSur y) then x - y else if oSur x then 1 else -1 := by rw [oCmpL, if_neg h]
theorem oI (k : Int32) (z : Int) (h : k.toInt = z) (c : Int32) : (c < k ↔ c.toInt < z) ∧ (k < c ↔ z < c.toInt) := by
  rw [Int32.lt_iff_toInt_lt, Int32.lt_iff_toInt_lt, h]; exact ⟨Iff.rfl, Iff.rfl⟩
theorem oHi_v {c : Int32} (h : oCp c) (g : ¬ c < (65536 : Int32)) : (oHi c).toInt = 55296 + (c.toInt - 65536) / 1024 := by
  have g' : ¬ c.toInt < 65536 := fun q => g ((oI 65536 65536 (by decide) c).1.mpr q)
  have a := c_isub c 65536
  have k : (65536 : Int32).toInt = 65536 := by decide
  have k2 : (55296 : Int32).toInt = 55296 := by decide
  have r := rng32 (c - 65536)
  have b := c_iushr (c - 65536) 10 10 (by decide) (by decide)
  have d := c_iadd 55296 (((c - (65536 : Int32)).toUInt32 >>> ((10 : Int32) &&& 31).toUInt32).toInt32)
  have r2 := rng32 ((55296 : Int32) + (((c - (65536 : Int32)).toUInt32 >>> ((10 : Int32) &&& 31).toUInt32).toInt32))
  obtain ⟨h1, h2, h3⟩ := h
  show ((55296 : Int32) + (((c - (65536 : Int32)).toUInt32 >>> ((10 : Int32) &&& 31).toUInt32).toInt32)).toInt = _
  omega
theorem oLo_v {c : Int32} (h : oCp c) (g : ¬ c < (65536 : Int32)) : (oLo c).toInt = 56320 + (c.toInt - 65536) % 1024 := by
  have g' : ¬ c.toInt < 65536 := fun q => g ((oI 65536 65536 (by decide) c).1.mpr q)
  have a := c_isub c 65536
  have k : (65536 : Int32).toInt = 65536 := by decide
  have k2 : (56320 : Int32).toInt = 56320 := by decide
  have r := rng32 (c - 65536)
  have b := c_mask (c - 65536) 1023 10 (by decide) (by decide)
  have d := c_iadd 56320 ((c - (65536 : Int32)) &&& (1023 : Int32))
  have r2 := rng32 ((56320 : Int32) + ((c - (65536 : Int32)) &&& (1023 : Int32)))
  obtain ⟨h1, h2, h3⟩ := h
  show ((56320 : Int32) + ((c - (65536 : Int32)) &&& (1023 : Int32))).toInt = _
  omega
theorem oSur_v (c : Int32) : oSur c ↔ 55296 ≤ c.toInt ∧ c.toInt < 57344 := by
  have a := (oI 55296 55296 (by decide) c).1
  have b := (oI 57344 57344 (by decide) c).1
  constructor
  · rintro ⟨p, q⟩; exact ⟨by have : ¬ c.toInt < 55296 := fun z => p (a.mpr z); omega, b.mp q⟩
  · rintro ⟨p, q⟩; exact ⟨fun z => by have := a.mp z; omega, b.mpr q⟩
theorem oSgn_sub {x y : Int32} (hx : 0 ≤ x.toInt ∧ x.toInt < 65536) (hy : 0 ≤ y.toInt ∧ y.toInt < 65536) (h : ¬ x = y) : oSgn (x - y) = if x.toInt < y.toInt then -1 else 1 := by
  have a := c_isub x y
  have r := rng32 (x - y)
  have n : x.toInt ≠ y.toInt := oNe32 h
  have p := (oI 0 0 (by decide) (x - y))
  unfold oSgn
  by_cases q : x.toInt < y.toInt
  · rw [if_neg (fun z => by have := p.2.mp z; omega), if_pos (p.1.mpr (by omega)), if_pos q]
  · rw [if_pos (p.2.mpr (by omega)), if_neg q]
theorem oSgn_ne {x y : Int32} {s t : List Int32} (hx : 0 ≤ x.toInt ∧ x.toInt < 65536) (hy : 0 ≤ y.toInt ∧ y.toInt < 65536) (h : ¬ x = y) :
    oSgn (oCmpL (x :: s) (y :: t)) = if oSur x ↔ oSur y then (if x.toInt < y.toInt then -1 else 1) else if oSur x then 1 else -1 := by
  rw [oCmpL_ne h]
  by_cases a : oSur x
  · by_cases b : oSur y
    · rw [if_pos (show oBi (oSur x) = oBi (oSur y) by rw [oBi_t a, oBi_t b]), if_pos (iff_of_true a b), oSgn_sub hx hy h]
    · rw [if_neg (show ¬ oBi (oSur x) = oBi (oSur y) by rw [oBi_t a, oBi_f b]; decide), if_pos a, if_neg (fun z : (oSur x ↔ oSur y) => b (z.mp a))]; decide
  · by_cases b : oSur y
    · rw [if_neg (show ¬ oBi (oSur x) = oBi (oSur y) by rw [oBi_f a, oBi_t b]; decide), if_neg a, if_neg (fun z : (oSur x ↔ oSur y) => a (z.mpr b))]; decide
    · rw [if_pos (show oBi (oSur x) = oBi (oSur y) by rw [oBi_f a, oBi_f b]), if_pos (iff_of_false a b), oSgn_sub hx hy h]
theorem oStep {a b : Int32} {s t : List Int32} (ha : oCp a) (hb : oCp b) (h : ¬ a = b) : oSgn (oCmpL (oEnc a ++ s) (oEnc b ++ t)) = if a < b then -1 else 1 := by
  have n : a.toInt ≠ b.toInt := oNe32 h
  have pa := (oI 65536 65536 (by decide) a).1
  have pb := (oI 65536 65536 (by decide) b).1
  have ab : a < b ↔ a.toInt < b.toInt := Int32.lt_iff_toInt_lt
  obtain ⟨a1, a2, a3⟩ := id ha
  obtain ⟨b1, b2, b3⟩ := id hb
  have fin : ∀ (P : Prop) [Decidable P], (P ↔ a.toInt < b.toInt) → (if P then (-1 : Int32) else 1) = if a < b then -1 else 1 := fun P _ q => by
    by_cases z : P
    · rw [if_pos z, if_pos (ab.mpr (q.mp z))]
    · rw [if_neg z, if_neg (fun w => z (q.mpr (ab.mp w)))]
  by_cases ga : a < (65536 : Int32)
  · have va := pa.mp ga
    by_cases gb : b < (65536 : Int32)
    · have vb := pb.mp gb
      rw [oEnc_b ga, oEnc_b gb]
      show oSgn (oCmpL (a :: s) (b :: t)) = _
      rw [oSgn_ne ⟨a1, va⟩ ⟨b1, vb⟩ h, if_pos (iff_of_false (fun z => by have := (oSur_v a).mp z; omega) (fun z => by have := (oSur_v b).mp z; omega))]
      exact fin _ Iff.rfl
    · have vb : ¬ b.toInt < 65536 := fun q => gb (pb.mpr q)
      have hi := oHi_v hb gb
      rw [oEnc_b ga, oEnc_s gb]
      show oSgn (oCmpL (a :: s) (oHi b :: oLo b :: t)) = _
      have sa : ¬ oSur a := fun z => by have := (oSur_v a).mp z; omega
      have sb : oSur (oHi b) := (oSur_v _).mpr (by omega)
      rw [oSgn_ne ⟨a1, va⟩ (by omega) (fun z => sa (z ▸ sb)), if_neg (fun z => sa (z.mpr sb)), if_neg sa, if_pos (ab.mpr (by omega))]
  · have va : ¬ a.toInt < 65536 := fun q => ga (pa.mpr q)
    have hia := oHi_v ha ga
    have loa := oLo_v ha ga
    have sa : oSur (oHi a) := (oSur_v _).mpr (by omega)
    by_cases gb : b < (65536 : Int32)
    · have vb := pb.mp gb
      rw [oEnc_s ga, oEnc_b gb]
      show oSgn (oCmpL (oHi a :: oLo a :: s) (b :: t)) = _
      have sb : ¬ oSur b := fun z => by have := (oSur_v b).mp z; omega
      rw [oSgn_ne (by omega) ⟨b1, vb⟩ (fun z => sb (z ▸ sa)), if_neg (fun z => sb (z.mp sa)), if_pos sa, if_neg (fun z => by have := ab.mp z; omega)]
    · have vb : ¬ b.toInt < 65536 := fun q => gb (pb.mpr q)
      have hib := oHi_v hb gb
      have lob := oLo_v hb gb
      have sb : oSur (oHi b) := (oSur_v _).mpr (by omega)
      rw [oEnc_s ga, oEnc_s gb]
      show oSgn (oCmpL (oHi a :: oLo a :: s) (oHi b :: oLo b :: t)) = _
      by_cases q : oHi a = oHi b
      · have q' : (oHi a).toInt = (oHi b).toInt := by rw [q]
        rw [oCmpL_eq q]
        have l : ¬ oLo a = oLo b := fun z => by
          have z' : (oLo a).toInt = (oLo b).toInt := by rw [z]
          omega
        rw [oSgn_ne (by omega) (by omega) l, if_pos (iff_of_true ((oSur_v _).mpr (by omega)) ((oSur_v _).mpr (by omega)))]
        exact fin _ (by omega)
      · have q' := oNe32 q
        rw [oSgn_ne (by omega) (by omega) q, if_pos (iff_of_true sa sb)]
        exact fin _ (by omega)
theorem oSame {a : Int32} {s t : List Int32} : oCmpL (oEnc a ++ s) (oEnc a ++ t) = oCmpL s t := by
  by_cases g : a < (65536 : Int32)
  · rw [oEnc_b g]; exact oCmpL_eq rfl
  · rw [oEnc_s g]; exact (oCmpL_eq rfl).trans (oCmpL_eq rfl)
theorem oEnc_cons (a : Int32) : ∃ x s, oEnc a = x :: s := by
  by_cases g : a < (65536 : Int32)
  · exact ⟨_, _, oEnc_b g⟩
  · exact ⟨_, _, oEnc_s g⟩
theorem oNilL (a : Int32) (s : List Int32) : oCmpL [] (oEnc a ++ s) = -1 := by obtain ⟨x, t, e⟩ := oEnc_cons a; rw [e]; rfl
theorem oNilR (a : Int32) (s : List Int32) : oCmpL (oEnc a ++ s) [] = 1 := by obtain ⟨x, t, e⟩ := oEnc_cons a; rw [e]; rfl
/-- the text of n code points -/
def oSO (n : Nat) (a b : Int32) : List Int32 := match n with
  | 0 => []
  | 1 => oEnc a ++ []
  | _ => oEnc a ++ (oEnc b ++ [])
theorem oSm (n : Int32) : oSgn (-1) = -1 ∧ oSgn 1 = 1 ∧ oSgn 0 = 0 := by decide
theorem oThm (n1 n2 : Nat) (h1 : n1 ≤ 2) (h2 : n2 ≤ 2) {a1 a2 b1 b2 : Int32} (ca1 : oCp a1) (ca2 : oCp a2) (cb1 : oCp b1) (cb2 : oCp b2) : oSgn (oCmpL (oSO n1 a1 a2) (oSO n2 b1 b2)) = oRef (Int32.ofNat n1) a1 a2 (Int32.ofNat n2) b1 b2 := by
  have e : (∀ x : Int32, ¬ (1 : Int32) < 1 ∧ (0 : Int32) < 1 ∧ (0 : Int32) < 2 ∧ (1 : Int32) < 2 ∧ ¬ (0 : Int32) < 0 ∧ ¬ (2 : Int32) < 1 ∧ ¬ (2 : Int32) < 2 ∧ ¬ (1 : Int32) < 0 ∧ ¬ (2 : Int32) < 0) := fun _ => by decide
  obtain ⟨e1, e2, e3, e4, e5, e6, e7, e8, e9⟩ := e 0
  match n1, n2, h1, h2 with
  | 0, 0, _, _ => show oSgn (oCmpL [] []) = _; simp [oRef, oCmpL, oSgn, e1, e2, e3, e4, e5, e6, e7, e8, e9]
  | 0, 1, _, _ => show oSgn (oCmpL [] (oEnc b1 ++ [])) = _; rw [oNilL]; simp [oRef, oSgn, e1, e2, e3, e4, e5, e6, e7, e8, e9]
  | 0, 2, _, _ => show oSgn (oCmpL [] (oEnc b1 ++ _)) = _; rw [oNilL]; simp [oRef, oSgn, e1, e2, e3, e4, e5, e6, e7, e8, e9]
  | 1, 0, _, _ => show oSgn (oCmpL (oEnc a1 ++ []) []) = _; rw [oNilR]; simp [oRef, oSgn, e1, e2, e3, e4, e5, e6, e7, e8, e9]
  | 2, 0, _, _ => show oSgn (oCmpL (oEnc a1 ++ _) []) = _; rw [oNilR]; simp [oRef, oSgn, e1, e2, e3, e4, e5, e6, e7, e8, e9]
  | 1, 1, _, _ =>
    show oSgn (oCmpL (oEnc a1 ++ []) (oEnc b1 ++ [])) = oRef 1 a1 a2 1 b1 b2
    by_cases q : a1 = b1
    · subst q; rw [oSame]; simp [oRef, oCmpL, oSgn, e1, e2, e3, e4, e5, e6, e7, e8, e9]
    · rw [oStep ca1 cb1 q]; simp [oRef, q, e1, e2, e3, e4, e5, e6, e7, e8, e9]
  | 1, 2, _, _ =>
    show oSgn (oCmpL (oEnc a1 ++ []) (oEnc b1 ++ (oEnc b2 ++ []))) = oRef 1 a1 a2 2 b1 b2
    by_cases q : a1 = b1
    · subst q; rw [oSame, oNilL]; simp [oRef, oCmpL, oSgn, e1, e2, e3, e4, e5, e6, e7, e8, e9]
    · rw [oStep ca1 cb1 q]; simp [oRef, q, e1, e2, e3, e4, e5, e6, e7, e8, e9]
  | 2, 1, _, _ =>
    show oSgn (oCmpL (oEnc a1 ++ (oEnc a2 ++ [])) (oEnc b1 ++ [])) = oRef 2 a1 a2 1 b1 b2
    by_cases q : a1 = b1
    · subst q; rw [oSame, oNilR]; simp [oRef, oCmpL, oSgn, e1, e2, e3, e4, e5, e6, e7, e8, e9]
    · rw [oStep ca1 cb1 q]; simp [oRef, q, e1, e2, e3, e4, e5, e6, e7, e8, e9]
  | 2, 2, _, _ =>
    show oSgn (oCmpL (oEnc a1 ++ (oEnc a2 ++ [])) (oEnc b1 ++ (oEnc b2 ++ []))) = oRef 2 a1 a2 2 b1 b2
    by_cases q : a1 = b1
    · subst q; rw [oSame]
      by_cases r : a2 = b2
      · subst r; rw [oSame]; simp [oRef, oCmpL, oSgn, e1, e2, e3, e4, e5, e6, e7, e8, e9]
      · rw [oStep ca2 cb2 r]; simp [oRef, r, e1, e2, e3, e4, e5, e6, e7, e8, e9]
    · rw [oStep ca1 cb1 q]; simp [oRef, q, e1, e2, e3, e4, e5, e6, e7, e8, e9]

/-- a text, its coder hidden -/
def oTx (Z : State) (h : Heap) (a : Addr) (cs : List Int32) : Prop := ∃ (b : Addr) (k : ClassId), Exa Z h a Y0 ∧ Fld Z h a Y0 "value" "[B" (.ref b) ∧
  ((Fld Z h a Y0 "coder" "B" (.int (0 : Int32)) ∧ Arv Z h b k .byte (Int32.ofNat cs.length) (cs.map ib) (.int (0 : Int32)) ∧ ∀ c ∈ cs, 0 ≤ c.toInt ∧ c.toInt < 256) ∨
   (Fld Z h a Y0 "coder" "B" (.int (1 : Int32)) ∧ Arv Z h b k .byte (Int32.ofNat (2 * cs.length)) (cs.flatMap fun c => [iu0 c, iu8 c]) (.int (0 : Int32)) ∧ ∀ c ∈ cs, 0 ≤ c.toInt ∧ c.toInt < 65536))
section OwnT
variable {Z : State} {h h' : Heap} {a : Addr} {cs : List Int32}
theorem oTx.ext (T : oTx Z h a cs) (E : Ext h h') : oTx Z h' a cs := by
  obtain ⟨b, k, x, v, ⟨c, w, r⟩ | ⟨c, w, r⟩⟩ := T
  · exact ⟨b, k, x.ext E, v.ext E, Or.inl ⟨c.ext E, w.ext E, r⟩⟩
  · exact ⟨b, k, x.ext E, v.ext E, Or.inr ⟨c.ext E, w.ext E, r⟩⟩
theorem oTx.keep0 (T : oTx Z h a cs) (K : Keep h h' []) : oTx Z h' a cs := by
  obtain ⟨b, k, x, v, ⟨c, w, r⟩ | ⟨c, w, r⟩⟩ := T
  · exact ⟨b, k, x.keep K, v.keep K nin0, Or.inl ⟨c.keep K nin0, w.keep K nin0, r⟩⟩
  · exact ⟨b, k, x.keep K, v.keep K nin0, Or.inr ⟨c.keep K nin0, w.keep K nin0, r⟩⟩
theorem oTx.exa (T : oTx Z h a cs) : Exa Z h a "java/lang/String" := by obtain ⟨b, k, x, -⟩ := T; exact x
theorem oTx.lt (T : oTx Z h a cs) : a < h.size := T.exa.lt
end OwnT
theorem oA0 {P : Int32 → Prop} : ∀ c ∈ ([] : List Int32), P c := fun _ q => nomatch q
theorem oAS {P : Int32 → Prop} {x : Int32} {s : List Int32} (h : P x) (r : ∀ c ∈ s, P c) : ∀ c ∈ x :: s, P c := fun c q => (List.mem_cons.mp q).elim (fun e => e ▸ h) (r c)
theorem oLt256 {x : Int32} (h : 0 ≤ x.toInt ∧ x.toInt < 65536) (q : ¬ (255 : Int32) < x) : 0 ≤ x.toInt ∧ x.toInt < 256 := by
  have a : ¬ (255 : Int32).toInt < x.toInt := fun z => q (Int32.lt_iff_toInt_lt.mpr z)
  have s : (255 : Int32).toInt = 255 := by decide
  omega
theorem oB16 {c : Int32} (h : oCp c) (g : c < (65536 : Int32)) : 0 ≤ c.toInt ∧ c.toInt < 65536 := ⟨h.1, (oI 65536 65536 (by decide) c).1.mp g⟩
theorem oH16 {c : Int32} (h : oCp c) (g : ¬ c < (65536 : Int32)) : 0 ≤ (oHi c).toInt ∧ (oHi c).toInt < 65536 := by
  have a := oHi_v h g
  have b : ¬ c.toInt < 65536 := fun q => g ((oI 65536 65536 (by decide) c).1.mpr q)
  obtain ⟨h1, h2, h3⟩ := h
  omega
theorem oL16 {c : Int32} (h : oCp c) (g : ¬ c < (65536 : Int32)) : 0 ≤ (oLo c).toInt ∧ (oLo c).toInt < 65536 := by
  have a := oLo_v h g
  omega
theorem oHg {c : Int32} (h : oCp c) (g : ¬ c < (65536 : Int32)) : (255 : Int32) < oHi c := by
  have a := oHi_v h g
  have b : ¬ c.toInt < 65536 := fun q => g ((oI 65536 65536 (by decide) c).1.mpr q)
  obtain ⟨h1, h2, h3⟩ := h
  exact (oI 255 255 (by decide) _).2.mpr (by omega)
theorem oSOl (n : Nat) (a b : Int32) : (oSO n a b).length ≤ 4 := by
  have e : ∀ c : Int32, (oEnc c).length ≤ 2 := fun c => by
    by_cases g : c < (65536 : Int32)
    · rw [oEnc_b g]; exact Nat.le_succ 1
    · rw [oEnc_s g]; exact Nat.le_refl 2
  have ea := e a
  have eb := e b
  match n with
  | 0 => exact Nat.zero_le _
  | 1 => simp only [oSO, List.length_append, List.length_nil]; omega
  | n + 2 => simp only [oSO, List.length_append, List.length_nil]; omega
theorem oLU1 (c0 : Int32) : (¬ (255 : Int32) < c0) ∨ (((255 : Int32) < c0)) := by
  by_cases h0 : (255 : Int32) < c0
  · exact Or.inr (h0)
  exact Or.inl h0
theorem oLU2 (c0 c1 : Int32) : (¬ (255 : Int32) < c0 ∧ ¬ (255 : Int32) < c1) ∨ (((255 : Int32) < c0) ∨ (¬ (255 : Int32) < c0 ∧ (255 : Int32) < c1)) := by
  by_cases h0 : (255 : Int32) < c0
  · exact Or.inr (Or.inl h0)
  by_cases h1 : (255 : Int32) < c1
  · exact Or.inr (Or.inr (⟨h0, h1⟩))
  exact Or.inl ⟨h0, h1⟩
theorem oLU3 (c0 c1 c2 : Int32) : (¬ (255 : Int32) < c0 ∧ ¬ (255 : Int32) < c1 ∧ ¬ (255 : Int32) < c2) ∨ (((255 : Int32) < c0) ∨ (¬ (255 : Int32) < c0 ∧ (255 : Int32) < c1) ∨ (¬ (255 : Int32) < c0 ∧ ¬ (255 : Int32) < c1 ∧ (255 : Int32) < c2)) := by
  by_cases h0 : (255 : Int32) < c0
  · exact Or.inr (Or.inl h0)
  by_cases h1 : (255 : Int32) < c1
  · exact Or.inr (Or.inr (Or.inl ⟨h0, h1⟩))
  by_cases h2 : (255 : Int32) < c2
  · exact Or.inr (Or.inr (Or.inr (⟨h0, h1, h2⟩)))
  exact Or.inl ⟨h0, h1, h2⟩
theorem oLU4 (c0 c1 c2 c3 : Int32) : (¬ (255 : Int32) < c0 ∧ ¬ (255 : Int32) < c1 ∧ ¬ (255 : Int32) < c2 ∧ ¬ (255 : Int32) < c3) ∨ (((255 : Int32) < c0) ∨ (¬ (255 : Int32) < c0 ∧ (255 : Int32) < c1) ∨ (¬ (255 : Int32) < c0 ∧ ¬ (255 : Int32) < c1 ∧ (255 : Int32) < c2) ∨ (¬ (255 : Int32) < c0 ∧ ¬ (255 : Int32) < c1 ∧ ¬ (255 : Int32) < c2 ∧ (255 : Int32) < c3)) := by
  by_cases h0 : (255 : Int32) < c0
  · exact Or.inr (Or.inl h0)
  by_cases h1 : (255 : Int32) < c1
  · exact Or.inr (Or.inr (Or.inl ⟨h0, h1⟩))
  by_cases h2 : (255 : Int32) < c2
  · exact Or.inr (Or.inr (Or.inr (Or.inl ⟨h0, h1, h2⟩)))
  by_cases h3 : (255 : Int32) < c3
  · exact Or.inr (Or.inr (Or.inr (Or.inr (⟨h0, h1, h2, h3⟩))))
  exact Or.inl ⟨h0, h1, h2, h3⟩
theorem pn_0 : plainName "java/lang/String" = true := by first | (simp [plainName, overriddenIn]; done) | decide +kernel
abbrev yy0 : MethodName := ⟨"java/lang/String", "coder", "()B"⟩
theorem d9_0 : decode jdk_42_method_152_code 0 = .ok (.getstatic 38, 3) := by decide +kernel
theorem d9_3 : decode jdk_42_method_152_code 3 = .ok (.ifCond .eq 10, 3) := by decide +kernel
theorem d9_6 : decode jdk_42_method_152_code 6 = .ok (.aload_n 0, 1) := by decide +kernel
theorem d9_7 : decode jdk_42_method_152_code 7 = .ok (.getfield 15, 3) := by decide +kernel
theorem d9_10 : decode jdk_42_method_152_code 10 = .ok (.goto 4, 3) := by decide +kernel
theorem d9_14 : decode jdk_42_method_152_code 14 = .ok (.ireturn, 1) := by decide +kernel
theorem rCdr (l : Launch) (Z : State) (a0 : Array Value) (hw : oHW a0 Z) (ws : List Jvm.Cond) (xa : Addr) (xz : Int32) (h0 : Heap) (O0 : Ext Z.heap h0) (S_Z : Sta Z Z.heap Y0 Y2 "Z" (.int xz)) (hz : ¬ xz = (0 : Int32)) (F_coder_xa : Fld Z h0 xa Y0 "coder" "B" (.int (0 : Int32))) :
    oCon l Z yy0 jdk_42_method_152_code 1 (some .byte) ws ({ frames := 0, cells := 0, slots := 0, locals := 0 } : Room) #[(.ref xa)] h0 (oPq (some (.int (0 : Int32))) h0) := by
  refine oCon.of (plainFor_of_name pn_0) ?_
  intro p e s m below meth c T X hx hby hml hown hnm hret hlk hZ e0
  have hml : c.maxLocals = 1 := hml
  have K : oKp h0 h0 [] [] := oKp.nil _ _
  refine oWk.cast (g' := (mkF m 0 #[rv xa] [])) (by first | rfl | (simp [entryFrame, mkF, argsToLocals, Value.category]; done)) ?_
  have Oh := K.old O0 all0
  obtain ⟨T, X, e0, st⟩ := getS2 X hx hZ hown (host := "") (Or.inl (oW hw 49 rfl)) Via.refl e0 (S_Z.ext Oh) (g := (mkF m 0 #[rv xa] [])) rfl (hb hby d9_0)
  refine oWk.st (fun _ kt => st _ (zH X hx hby d9_3 rfl rfl ((if0 _ _).trans (feq hz).1) (zA X hx hby d9_6 rfl rfl rfl kt))) ?_
  obtain ⟨T, X, e0, st⟩ := getF X hx hZ hown (host := "") (Or.inl (oW hw 34 rfl)) Via.refl e0 F_coder_xa (g := (mkF m 7 #[rv xa] [(.ref xa)])) rfl rfl (hb hby d9_7)
  refine oWk.to (mkF m 14 #[rv xa] [(.int 0)]) (fun _ kt => st _ (zG X hx hby d9_10 rfl (pc' := 14) rfl kt)) ?_
  exact oRetN X hx hlk hret (Or.inl rfl) rfl (hb hby d9_14) (by rw [e0]; exact ⟨rfl, rfl, K⟩) (by decide) (by decide)
theorem rCdr1 (l : Launch) (Z : State) (a0 : Array Value) (hw : oHW a0 Z) (ws : List Jvm.Cond) (xa : Addr) (xz : Int32) (h0 : Heap) (O0 : Ext Z.heap h0) (S_Z : Sta Z Z.heap Y0 Y2 "Z" (.int xz)) (hz : ¬ xz = (0 : Int32)) (F_coder_xa : Fld Z h0 xa Y0 "coder" "B" (.int (1 : Int32))) :
    oCon l Z yy0 jdk_42_method_152_code 1 (some .byte) ws ({ frames := 0, cells := 0, slots := 0, locals := 0 } : Room) #[(.ref xa)] h0 (oPq (some (.int (1 : Int32))) h0) := by
  refine oCon.of (plainFor_of_name pn_0) ?_
  intro p e s m below meth c T X hx hby hml hown hnm hret hlk hZ e0
  have hml : c.maxLocals = 1 := hml
  have K : oKp h0 h0 [] [] := oKp.nil _ _
  refine oWk.cast (g' := (mkF m 0 #[rv xa] [])) (by first | rfl | (simp [entryFrame, mkF, argsToLocals, Value.category]; done)) ?_
  have Oh := K.old O0 all0
  obtain ⟨T, X, e0, st⟩ := getS2 X hx hZ hown (host := "") (Or.inl (oW hw 49 rfl)) Via.refl e0 (S_Z.ext Oh) (g := (mkF m 0 #[rv xa] [])) rfl (hb hby d9_0)
  refine oWk.st (fun _ kt => st _ (zH X hx hby d9_3 rfl rfl ((if0 _ _).trans (feq hz).1) (zA X hx hby d9_6 rfl rfl rfl kt))) ?_
  obtain ⟨T, X, e0, st⟩ := getF X hx hZ hown (host := "") (Or.inl (oW hw 34 rfl)) Via.refl e0 F_coder_xa (g := (mkF m 7 #[rv xa] [(.ref xa)])) rfl rfl (hb hby d9_7)
  refine oWk.to (mkF m 14 #[rv xa] [(.int 1)]) (fun _ kt => st _ (zG X hx hby d9_10 rfl (pc' := 14) rfl kt)) ?_
  exact oRetN X hx hlk hret (Or.inl rfl) rfl (hb hby d9_14) (by rw [e0]; exact ⟨rfl, rfl, K⟩) (by decide) (by decide)
abbrev yy1 : MethodName := ⟨"java/lang/String", "isLatin1", "()Z"⟩
theorem d24_0 : decode jdk_42_method_154_code 0 = .ok (.getstatic 38, 3) := by decide +kernel
theorem d24_3 : decode jdk_42_method_154_code 3 = .ok (.ifCond .eq 14, 3) := by decide +kernel
theorem d24_6 : decode jdk_42_method_154_code 6 = .ok (.aload_n 0, 1) := by decide +kernel
theorem d24_7 : decode jdk_42_method_154_code 7 = .ok (.getfield 15, 3) := by decide +kernel
theorem d24_10 : decode jdk_42_method_154_code 10 = .ok (.ifCond .ne 7, 3) := by decide +kernel
theorem d24_13 : decode jdk_42_method_154_code 13 = .ok (.iconst 1, 1) := by decide +kernel
theorem d24_14 : decode jdk_42_method_154_code 14 = .ok (.goto 4, 3) := by decide +kernel
theorem d24_18 : decode jdk_42_method_154_code 18 = .ok (.ireturn, 1) := by decide +kernel
theorem rIsL (l : Launch) (Z : State) (a0 : Array Value) (hw : oHW a0 Z) (ws : List Jvm.Cond) (xa : Addr) (xz : Int32) (h0 : Heap) (O0 : Ext Z.heap h0) (S_Z : Sta Z Z.heap Y0 Y2 "Z" (.int xz)) (hz : ¬ xz = (0 : Int32)) (F_coder_xa : Fld Z h0 xa Y0 "coder" "B" (.int (0 : Int32))) :
    oCon l Z yy1 jdk_42_method_154_code 1 (some .boolean) ws ({ frames := 0, cells := 0, slots := 0, locals := 0 } : Room) #[(.ref xa)] h0 (oPq (some (.int (1 : Int32))) h0) := by
  refine oCon.of (plainFor_of_name pn_0) ?_
  intro p e s m below meth c T X hx hby hml hown hnm hret hlk hZ e0
  have hml : c.maxLocals = 1 := hml
  have K : oKp h0 h0 [] [] := oKp.nil _ _
  refine oWk.cast (g' := (mkF m 0 #[rv xa] [])) (by first | rfl | (simp [entryFrame, mkF, argsToLocals, Value.category]; done)) ?_
  have Oh := K.old O0 all0
  obtain ⟨T, X, e0, st⟩ := getS2 X hx hZ hown (host := "") (Or.inl (oW hw 49 rfl)) Via.refl e0 (S_Z.ext Oh) (g := (mkF m 0 #[rv xa] [])) rfl (hb hby d24_0)
  refine oWk.st (fun _ kt => st _ (zH X hx hby d24_3 rfl rfl ((if0 _ _).trans (feq hz).1) (zA X hx hby d24_6 rfl rfl rfl kt))) ?_
  obtain ⟨T, X, e0, st⟩ := getF X hx hZ hown (host := "") (Or.inl (oW hw 34 rfl)) Via.refl e0 F_coder_xa (g := (mkF m 7 #[rv xa] [(.ref xa)])) rfl rfl (hb hby d24_7)
  refine oWk.to (mkF m 18 #[rv xa] [(.int 1)]) (fun _ kt => st _ (zH X hx hby d24_10 rfl rfl ((if0 _ _).trans (teq (by decide)).2) (zK X hx hby d24_13 rfl (zG X hx hby d24_14 rfl (pc' := 18) rfl kt)))) ?_
  exact oRetZ X hx hlk hret (hb hby d24_18) (Or.inr rfl) (by rw [e0]; exact ⟨rfl, rfl, K⟩) (by decide) (by decide)
theorem d24_17 : decode jdk_42_method_154_code 17 = .ok (.iconst 0, 1) := by decide +kernel
theorem rIsL1 (l : Launch) (Z : State) (a0 : Array Value) (hw : oHW a0 Z) (ws : List Jvm.Cond) (xa : Addr) (xz : Int32) (h0 : Heap) (O0 : Ext Z.heap h0) (S_Z : Sta Z Z.heap Y0 Y2 "Z" (.int xz)) (hz : ¬ xz = (0 : Int32)) (F_coder_xa : Fld Z h0 xa Y0 "coder" "B" (.int (1 : Int32))) :
    oCon l Z yy1 jdk_42_method_154_code 1 (some .boolean) ws ({ frames := 0, cells := 0, slots := 0, locals := 0 } : Room) #[(.ref xa)] h0 (oPq (some (.int (0 : Int32))) h0) := by
  refine oCon.of (plainFor_of_name pn_0) ?_
  intro p e s m below meth c T X hx hby hml hown hnm hret hlk hZ e0
  have hml : c.maxLocals = 1 := hml
  have K : oKp h0 h0 [] [] := oKp.nil _ _
  refine oWk.cast (g' := (mkF m 0 #[rv xa] [])) (by first | rfl | (simp [entryFrame, mkF, argsToLocals, Value.category]; done)) ?_
  have Oh := K.old O0 all0
  obtain ⟨T, X, e0, st⟩ := getS2 X hx hZ hown (host := "") (Or.inl (oW hw 49 rfl)) Via.refl e0 (S_Z.ext Oh) (g := (mkF m 0 #[rv xa] [])) rfl (hb hby d24_0)
  refine oWk.st (fun _ kt => st _ (zH X hx hby d24_3 rfl rfl ((if0 _ _).trans (feq hz).1) (zA X hx hby d24_6 rfl rfl rfl kt))) ?_
  obtain ⟨T, X, e0, st⟩ := getF X hx hZ hown (host := "") (Or.inl (oW hw 34 rfl)) Via.refl e0 F_coder_xa (g := (mkF m 7 #[rv xa] [(.ref xa)])) rfl rfl (hb hby d24_7)
  refine oWk.to (mkF m 18 #[rv xa] [(.int 0)]) (fun _ kt => st _ (zF X hx hby d24_10 rfl rfl ((if0 _ _).trans (feq (by decide)).2) (pc' := 17) rfl (zK X hx hby d24_17 rfl kt))) ?_
  exact oRetZ X hx hlk hret (hb hby d24_18) (Or.inl rfl) (by rw [e0]; exact ⟨rfl, rfl, K⟩) (by decide) (by decide)
abbrev yy2 : MethodName := ⟨"java/lang/String", "length", "()I"⟩
theorem d8_0 : decode jdk_42_method_54_code 0 = .ok (.aload_n 0, 1) := by decide +kernel
theorem d8_1 : decode jdk_42_method_54_code 1 = .ok (.getfield 9, 3) := by decide +kernel
theorem d8_4 : decode jdk_42_method_54_code 4 = .ok (.arraylength, 1) := by decide +kernel
theorem d8_5 : decode jdk_42_method_54_code 5 = .ok (.aload_n 0, 1) := by decide +kernel
theorem d8_6 : decode jdk_42_method_54_code 6 = .ok (.invokevirtual 335, 3) := by decide +kernel
theorem pd_0 : parseMethodDescriptor "()B" = some ⟨[], some .byte⟩ := by decide +kernel
theorem cs0 {a0 : Array Value} {Z : State} (hw : oHW a0 Z) : oCall Z Y0 (.invokevirtual 335) yy0 jdk_42_method_152_code 1 (some .byte) (oRv Z 0 Y0) := oCall.virt (oW hw 44 rfl) (oW hw 45 rfl) (fun _ hZ => notFace_of_selects (args := #[]) (mvT hZ (oW hw 47 rfl))) (oW hw 47 rfl) (oW hw 46 rfl) (oW hw 16 rfl) (oW hw 48 rfl) (by decide) pd_0
theorem d8_9 : decode jdk_42_method_54_code 9 = .ok (.ishr, 1) := by decide +kernel
theorem d8_10 : decode jdk_42_method_54_code 10 = .ok (.ireturn, 1) := by decide +kernel
theorem rLnU_0 (l : Launch) (Z : State) (a0 : Array Value) (hw : oHW a0 Z) (ws : List Jvm.Cond) (xa xb : Addr) (xk : ClassId) (xz : Int32) (h0 : Heap) (O0 : Ext Z.heap h0) (S_Z : Sta Z Z.heap Y0 Y2 "Z" (.int xz)) (hz : ¬ xz = (0 : Int32)) (E_xa : Exa Z h0 xa Y0) (F_coder_xa : Fld Z h0 xa Y0 "coder" "B" (.int (1 : Int32))) (F_value_xa : Fld Z h0 xa Y0 "value" "[B" (.ref xb)) (V_xb : Arv Z h0 xb xk .byte (0 : Int32) [] (.int (0 : Int32))) :
    oCon l Z yy2 jdk_42_method_54_code 1 (some .int) ws ({ frames := 1, cells := 0, slots := 0, locals := 13 } : Room) #[(.ref xa)] h0 (oPq (some (.int (0 : Int32))) h0) := by
  refine oCon.of (plainFor_of_name pn_0) ?_
  intro p e s m below meth c T X hx hby hml hown hnm hret hlk hZ e0
  have hml : c.maxLocals = 1 := hml
  have K : oKp h0 h0 [] [] := oKp.nil _ _
  refine oWk.cast (g' := (mkF m 0 #[rv xa] [])) (by first | rfl | (simp [entryFrame, mkF, argsToLocals, Value.category]; done)) ?_
  refine oWk.st (fun _ kt => zA X hx hby d8_0 rfl rfl rfl kt) ?_
  obtain ⟨T, X, e0, st⟩ := getF X hx hZ hown (host := "") (Or.inl (oW hw 33 rfl)) Via.refl e0 F_value_xa (g := (mkF m 1 #[rv xa] [(.ref xa)])) rfl rfl (hb hby d8_1)
  refine oWk.st (fun _ kt => st _ (oAl X hx hZ e0 V_xb hby d8_4 rfl rfl (zA X hx hby d8_5 rfl rfl rfl kt))) ?_
  have Oh := K.old O0 all0
  obtain ⟨T, L3, X, e0, K, st⟩ := (cs0 hw).pure X hx hZ hown e0 K (A := [(.ref xa)]) ⟨rfl, _, _, rfl, E_xa⟩ (rCdr1 l Z a0 hw [] xa xz h0 Oh S_Z hz F_coder_xa) (W := 1) (by decide) hml (Ls := #[rv xa]) rfl (rest := [(.int (0 : Int32))]) rfl rfl hby d8_6
  refine oWk.to (mkF m 10 #[rv xa] [(.int 0)]) (fun _ kt => st _ (XS.ishr X.here hx rfl (hb hby d8_9) rfl kt)) ?_
  exact oRetI X hx hlk hret (hb hby d8_10) (by rw [e0]; exact ⟨rfl, rfl, K⟩) (by decide) (by decide)
theorem rLn_0 (l : Launch) (Z : State) (a0 : Array Value) (hw : oHW a0 Z) (ws : List Jvm.Cond) (xa xb : Addr) (xk : ClassId) (xz : Int32) (h0 : Heap) (O0 : Ext Z.heap h0) (S_Z : Sta Z Z.heap Y0 Y2 "Z" (.int xz)) (hz : ¬ xz = (0 : Int32)) (E_xa : Exa Z h0 xa Y0) (F_coder_xa : Fld Z h0 xa Y0 "coder" "B" (.int (0 : Int32))) (F_value_xa : Fld Z h0 xa Y0 "value" "[B" (.ref xb)) (V_xb : Arv Z h0 xb xk .byte (0 : Int32) [] (.int (0 : Int32))) :
    oCon l Z yy2 jdk_42_method_54_code 1 (some .int) ws ({ frames := 1, cells := 0, slots := 0, locals := 13 } : Room) #[(.ref xa)] h0 (oPq (some (.int (0 : Int32))) h0) := by
  refine oCon.of (plainFor_of_name pn_0) ?_
  intro p e s m below meth c T X hx hby hml hown hnm hret hlk hZ e0
  have hml : c.maxLocals = 1 := hml
  have K : oKp h0 h0 [] [] := oKp.nil _ _
  refine oWk.cast (g' := (mkF m 0 #[rv xa] [])) (by first | rfl | (simp [entryFrame, mkF, argsToLocals, Value.category]; done)) ?_
  refine oWk.st (fun _ kt => zA X hx hby d8_0 rfl rfl rfl kt) ?_
  obtain ⟨T, X, e0, st⟩ := getF X hx hZ hown (host := "") (Or.inl (oW hw 33 rfl)) Via.refl e0 F_value_xa (g := (mkF m 1 #[rv xa] [(.ref xa)])) rfl rfl (hb hby d8_1)
  refine oWk.st (fun _ kt => st _ (oAl X hx hZ e0 V_xb hby d8_4 rfl rfl (zA X hx hby d8_5 rfl rfl rfl kt))) ?_
  have Oh := K.old O0 all0
  obtain ⟨T, L3, X, e0, K, st⟩ := (cs0 hw).pure X hx hZ hown e0 K (A := [(.ref xa)]) ⟨rfl, _, _, rfl, E_xa⟩ (rCdr l Z a0 hw [] xa xz h0 Oh S_Z hz F_coder_xa) (W := 1) (by decide) hml (Ls := #[rv xa]) rfl (rest := [(.int (0 : Int32))]) rfl rfl hby d8_6
  refine oWk.to (mkF m 10 #[rv xa] [(.int 0)]) (fun _ kt => st _ (XS.ishr X.here hx rfl (hb hby d8_9) rfl kt)) ?_
  exact oRetI X hx hlk hret (hb hby d8_10) (by rw [e0]; exact ⟨rfl, rfl, K⟩) (by decide) (by decide)
theorem rLnT_0 (l : Launch) (Z : State) (a0 : Array Value) (hw : oHW a0 Z) (ws : List Jvm.Cond) (xa : Addr) (xz : Int32) (h0 : Heap) (O0 : Ext Z.heap h0) (S_Z : Sta Z Z.heap Y0 Y2 "Z" (.int xz)) (hz : ¬ xz = (0 : Int32)) (T_xa : oTx Z h0 xa []) :
    oCon l Z yy2 jdk_42_method_54_code 1 (some .int) ws ({ frames := 1, cells := 0, slots := 0, locals := 13 } : Room) #[(.ref xa)] h0 (oPq (some (.int (0 : Int32))) h0) := by
  obtain ⟨b, k, E, V, ⟨C, A, R⟩ | ⟨C, A, R⟩⟩ := T_xa
  · exact rLn_0 l Z a0 hw ws xa b k xz  h0 O0 S_Z hz E C V A
  · exact rLnU_0 l Z a0 hw ws xa b k xz  h0 O0 S_Z hz E C V A
theorem rLnU_1 (l : Launch) (Z : State) (a0 : Array Value) (hw : oHW a0 Z) (ws : List Jvm.Cond) (xa xb : Addr) (xk : ClassId) (xz xc0 : Int32) (h0 : Heap) (O0 : Ext Z.heap h0) (S_Z : Sta Z Z.heap Y0 Y2 "Z" (.int xz)) (hz : ¬ xz = (0 : Int32)) (E_xa : Exa Z h0 xa Y0) (F_coder_xa : Fld Z h0 xa Y0 "coder" "B" (.int (1 : Int32))) (F_value_xa : Fld Z h0 xa Y0 "value" "[B" (.ref xb)) (V_xb : Arv Z h0 xb xk .byte (2 : Int32) [(iu0 xc0), (iu8 xc0)] (.int (0 : Int32))) :
    oCon l Z yy2 jdk_42_method_54_code 1 (some .int) ws ({ frames := 1, cells := 0, slots := 0, locals := 13 } : Room) #[(.ref xa)] h0 (oPq (some (.int (1 : Int32))) h0) := by
  refine oCon.of (plainFor_of_name pn_0) ?_
  intro p e s m below meth c T X hx hby hml hown hnm hret hlk hZ e0
  have hml : c.maxLocals = 1 := hml
  have K : oKp h0 h0 [] [] := oKp.nil _ _
  refine oWk.cast (g' := (mkF m 0 #[rv xa] [])) (by first | rfl | (simp [entryFrame, mkF, argsToLocals, Value.category]; done)) ?_
  refine oWk.st (fun _ kt => zA X hx hby d8_0 rfl rfl rfl kt) ?_
  obtain ⟨T, X, e0, st⟩ := getF X hx hZ hown (host := "") (Or.inl (oW hw 33 rfl)) Via.refl e0 F_value_xa (g := (mkF m 1 #[rv xa] [(.ref xa)])) rfl rfl (hb hby d8_1)
  refine oWk.st (fun _ kt => st _ (oAl X hx hZ e0 V_xb hby d8_4 rfl rfl (zA X hx hby d8_5 rfl rfl rfl kt))) ?_
  have Oh := K.old O0 all0
  obtain ⟨T, L3, X, e0, K, st⟩ := (cs0 hw).pure X hx hZ hown e0 K (A := [(.ref xa)]) ⟨rfl, _, _, rfl, E_xa⟩ (rCdr1 l Z a0 hw [] xa xz h0 Oh S_Z hz F_coder_xa) (W := 1) (by decide) hml (Ls := #[rv xa]) rfl (rest := [(.int (2 : Int32))]) rfl rfl hby d8_6
  refine oWk.to (mkF m 10 #[rv xa] [(.int 1)]) (fun _ kt => st _ (XS.ishr X.here hx rfl (hb hby d8_9) rfl kt)) ?_
  exact oRetI X hx hlk hret (hb hby d8_10) (by rw [e0]; exact ⟨rfl, rfl, K⟩) (by decide) (by decide)
theorem rLn_1 (l : Launch) (Z : State) (a0 : Array Value) (hw : oHW a0 Z) (ws : List Jvm.Cond) (xa xb : Addr) (xk : ClassId) (xz xc0 : Int32) (h0 : Heap) (O0 : Ext Z.heap h0) (S_Z : Sta Z Z.heap Y0 Y2 "Z" (.int xz)) (hz : ¬ xz = (0 : Int32)) (E_xa : Exa Z h0 xa Y0) (F_coder_xa : Fld Z h0 xa Y0 "coder" "B" (.int (0 : Int32))) (F_value_xa : Fld Z h0 xa Y0 "value" "[B" (.ref xb)) (V_xb : Arv Z h0 xb xk .byte (1 : Int32) [(ib xc0)] (.int (0 : Int32))) :
    oCon l Z yy2 jdk_42_method_54_code 1 (some .int) ws ({ frames := 1, cells := 0, slots := 0, locals := 13 } : Room) #[(.ref xa)] h0 (oPq (some (.int (1 : Int32))) h0) := by
  refine oCon.of (plainFor_of_name pn_0) ?_
  intro p e s m below meth c T X hx hby hml hown hnm hret hlk hZ e0
  have hml : c.maxLocals = 1 := hml
  have K : oKp h0 h0 [] [] := oKp.nil _ _
  refine oWk.cast (g' := (mkF m 0 #[rv xa] [])) (by first | rfl | (simp [entryFrame, mkF, argsToLocals, Value.category]; done)) ?_
  refine oWk.st (fun _ kt => zA X hx hby d8_0 rfl rfl rfl kt) ?_
  obtain ⟨T, X, e0, st⟩ := getF X hx hZ hown (host := "") (Or.inl (oW hw 33 rfl)) Via.refl e0 F_value_xa (g := (mkF m 1 #[rv xa] [(.ref xa)])) rfl rfl (hb hby d8_1)
  refine oWk.st (fun _ kt => st _ (oAl X hx hZ e0 V_xb hby d8_4 rfl rfl (zA X hx hby d8_5 rfl rfl rfl kt))) ?_
  have Oh := K.old O0 all0
  obtain ⟨T, L3, X, e0, K, st⟩ := (cs0 hw).pure X hx hZ hown e0 K (A := [(.ref xa)]) ⟨rfl, _, _, rfl, E_xa⟩ (rCdr l Z a0 hw [] xa xz h0 Oh S_Z hz F_coder_xa) (W := 1) (by decide) hml (Ls := #[rv xa]) rfl (rest := [(.int (1 : Int32))]) rfl rfl hby d8_6
  refine oWk.to (mkF m 10 #[rv xa] [(.int 1)]) (fun _ kt => st _ (XS.ishr X.here hx rfl (hb hby d8_9) rfl kt)) ?_
  exact oRetI X hx hlk hret (hb hby d8_10) (by rw [e0]; exact ⟨rfl, rfl, K⟩) (by decide) (by decide)
theorem rLnT_1 (l : Launch) (Z : State) (a0 : Array Value) (hw : oHW a0 Z) (ws : List Jvm.Cond) (xa : Addr) (xz xc0 : Int32) (h0 : Heap) (O0 : Ext Z.heap h0) (S_Z : Sta Z Z.heap Y0 Y2 "Z" (.int xz)) (hz : ¬ xz = (0 : Int32)) (T_xa : oTx Z h0 xa [xc0]) :
    oCon l Z yy2 jdk_42_method_54_code 1 (some .int) ws ({ frames := 1, cells := 0, slots := 0, locals := 13 } : Room) #[(.ref xa)] h0 (oPq (some (.int (1 : Int32))) h0) := by
  obtain ⟨b, k, E, V, ⟨C, A, R⟩ | ⟨C, A, R⟩⟩ := T_xa
  · exact rLn_1 l Z a0 hw ws xa b k xz xc0 h0 O0 S_Z hz E C V A
  · exact rLnU_1 l Z a0 hw ws xa b k xz xc0 h0 O0 S_Z hz E C V A
theorem pn_1 : plainName "jdk/internal/util/Preconditions" = true := by first | (simp [plainName, overriddenIn]; done) | decide +kernel
abbrev yy3 : MethodName := ⟨"jdk/internal/util/Preconditions", "checkIndex", "(IILjava/util/function/BiFunction;)I"⟩
theorem d29_0 : decode jdk_41_method_11_code 0 = .ok (.iload_n 0, 1) := by decide +kernel
theorem d29_1 : decode jdk_41_method_11_code 1 = .ok (.ifCond .lt 8, 3) := by decide +kernel
theorem d29_4 : decode jdk_41_method_11_code 4 = .ok (.iload_n 0, 1) := by decide +kernel
theorem d29_5 : decode jdk_41_method_11_code 5 = .ok (.iload_n 1, 1) := by decide +kernel
theorem d29_6 : decode jdk_41_method_11_code 6 = .ok (.if_icmp .lt 10, 3) := by decide +kernel
theorem d29_16 : decode jdk_41_method_11_code 16 = .ok (.iload_n 0, 1) := by decide +kernel
theorem d29_17 : decode jdk_41_method_11_code 17 = .ok (.ireturn, 1) := by decide +kernel
theorem rPCk (l : Launch) (Z : State) (a0 : Array Value) (hw : oHW a0 Z) (ws : List Jvm.Cond) (xi xn : Int32) (xfm : Value) (h0 : Heap) (O0 : Ext Z.heap h0) (hcat : xfm.category = 1) (h1 : ¬ xi < (0 : Int32)) (h2 : xi < xn) :
    oCon l Z yy3 jdk_41_method_11_code 3 (some .int) ws ({ frames := 0, cells := 0, slots := 0, locals := 0 } : Room) #[(.int xi), (.int xn), xfm] h0 (oPq (some (.int xi)) h0) := by
  refine oCon.of (plainFor_of_name pn_1) ?_
  intro p e s m below meth c T X hx hby hml hown hnm hret hlk hZ e0
  have hml : c.maxLocals = 3 := hml
  have K : oKp h0 h0 [] [] := oKp.nil _ _
  refine oWk.cast (g' := (mkF m 0 #[iv xi, iv xn, .val xfm] [])) (by cases xfm <;> first | rfl | exact absurd hcat (by simp [Value.category])) ?_
  refine oWk.to (mkF m 17 #[iv xi, iv xn, .val xfm] [(.int xi)]) (fun _ kt => zI X hx hby d29_0 rfl rfl (zH X hx hby d29_1 rfl rfl ((if0 _ _).trans (flt h1).1) (zI X hx hby d29_4 rfl rfl (zI X hx hby d29_5 rfl rfl (zY X hx hby d29_6 rfl rfl (tlt h2).1 (pc' := 16) rfl (zI X hx hby d29_16 rfl rfl kt)))))) ?_
  exact oRetI X hx hlk hret (hb hby d29_17) (by rw [e0]; exact ⟨rfl, rfl, K⟩) (by decide) (by decide)
abbrev yy4 : MethodName := ⟨"java/lang/String", "checkIndex", "(II)V"⟩
theorem d28_0 : decode jdk_42_method_155_code 0 = .ok (.iload_n 0, 1) := by decide +kernel
theorem d28_1 : decode jdk_42_method_155_code 1 = .ok (.iload_n 1, 1) := by decide +kernel
theorem d28_2 : decode jdk_42_method_155_code 2 = .ok (.getstatic 1053, 3) := by decide +kernel
theorem d28_5 : decode jdk_42_method_155_code 5 = .ok (.invokestatic 1059, 3) := by decide +kernel
theorem pd_1 : parseMethodDescriptor "(IILjava/util/function/BiFunction;)I" = some ⟨[.int, .int, (.object "java/util/function/BiFunction")], some .int⟩ := by decide +kernel
theorem cs1 {a0 : Array Value} {Z : State} (hw : oHW a0 Z) : oCall Z Y0 (.invokestatic 1059) yy3 jdk_41_method_11_code 3 (some .int) (oRs 3) := oCall.stat (oW hw 123 rfl) (oW hw 124 rfl) (oW hw 122 rfl) (oW hw 125 rfl) (by decide) pd_1
theorem d28_8 : decode jdk_42_method_155_code 8 = .ok (.pop, 1) := by decide +kernel
theorem d28_9 : decode jdk_42_method_155_code 9 = .ok (.return_, 1) := by decide +kernel
theorem rCkI (l : Launch) (Z : State) (a0 : Array Value) (hw : oHW a0 Z) (ws : List Jvm.Cond) (xi xn : Int32) (xfm : Value) (h0 : Heap) (O0 : Ext Z.heap h0) (S_F : Sta Z Z.heap Y4 Y5 Y6 xfm) (hcat : xfm.category = 1) (h1 : ¬ xi < (0 : Int32)) (h2 : xi < xn) :
    oCon l Z yy4 jdk_42_method_155_code 2 none ws ({ frames := 1, cells := 0, slots := 0, locals := 14 } : Room) #[(.int xi), (.int xn)] h0 (oPq none h0) := by
  refine oCon.of (plainFor_of_name pn_0) ?_
  intro p e s m below meth c T X hx hby hml hown hnm hret hlk hZ e0
  have hml : c.maxLocals = 2 := hml
  have K : oKp h0 h0 [] [] := oKp.nil _ _
  refine oWk.cast (g' := (mkF m 0 #[iv xi, iv xn] [])) (by first | rfl | (simp [entryFrame, mkF, argsToLocals, Value.category]; done)) ?_
  refine oWk.st (fun _ kt => zI X hx hby d28_0 rfl rfl (zI X hx hby d28_1 rfl rfl kt)) ?_
  have Oh := K.old O0 all0
  obtain ⟨T, X, e0, st⟩ := getS2 X hx hZ hown (host := "") (Or.inl (oW hw 121 rfl)) Via.refl e0 (S_F.ext Oh) (g := (mkF m 2 #[iv xi, iv xn] [(.int xn), (.int xi)])) rfl (hb hby d28_2)
  refine oWk.st (fun _ kt => st _ kt) ?_
  obtain ⟨T, L2, X, e0, K, st⟩ := (cs1 hw).pure X hx hZ hown e0 K (A := [(.int xi), (.int xn), xfm]) rfl (rPCk l Z a0 hw [] xi xn xfm h0 Oh hcat h1 h2) (W := 0) (by decide) hml (Ls := #[iv xi, iv xn]) rfl (rest := []) rfl rfl hby d28_5
  refine oWk.to (mkF m 9 #[iv xi, iv xn] []) (fun _ kt => st _ (XS.pop X.here hx rfl (hb hby d28_8) rfl rfl kt)) ?_
  exact oRetV X hx hlk hret (hb hby d28_9) (by rw [e0]; exact ⟨rfl, rfl, K⟩) (by decide) (by decide)
theorem pn_2 : plainName "java/lang/StringUTF16" = true := by first | (simp [plainName, overriddenIn]; done) | decide +kernel
abbrev yy5 : MethodName := ⟨"java/lang/StringUTF16", "length", "([B)I"⟩
theorem d27_0 : decode jdk_52_method_6_code 0 = .ok (.aload_n 0, 1) := by decide +kernel
theorem d27_1 : decode jdk_52_method_6_code 1 = .ok (.arraylength, 1) := by decide +kernel
theorem d27_2 : decode jdk_52_method_6_code 2 = .ok (.iconst 1, 1) := by decide +kernel
theorem d27_3 : decode jdk_52_method_6_code 3 = .ok (.ishr, 1) := by decide +kernel
theorem d27_4 : decode jdk_52_method_6_code 4 = .ok (.ireturn, 1) := by decide +kernel
theorem rUL_1 (l : Launch) (Z : State) (a0 : Array Value) (hw : oHW a0 Z) (ws : List Jvm.Cond) (xb : Addr) (xk : ClassId) (xc0 : Int32) (h0 : Heap) (O0 : Ext Z.heap h0) (V_xb : Arv Z h0 xb xk .byte (2 : Int32) [(iu0 xc0), (iu8 xc0)] (.int (0 : Int32))) :
    oCon l Z yy5 jdk_52_method_6_code 1 (some .int) ws ({ frames := 0, cells := 0, slots := 0, locals := 0 } : Room) #[(.ref xb)] h0 (oPq (some (.int (1 : Int32))) h0) := by
  refine oCon.of (plainFor_of_name pn_2) ?_
  intro p e s m below meth c T X hx hby hml hown hnm hret hlk hZ e0
  have hml : c.maxLocals = 1 := hml
  have K : oKp h0 h0 [] [] := oKp.nil _ _
  refine oWk.cast (g' := (mkF m 0 #[rv xb] [])) (by first | rfl | (simp [entryFrame, mkF, argsToLocals, Value.category]; done)) ?_
  refine oWk.to (mkF m 4 #[rv xb] [(.int 1)]) (fun _ kt => zA X hx hby d27_0 rfl rfl rfl (oAl X hx hZ e0 V_xb hby d27_1 rfl rfl (zK X hx hby d27_2 rfl (XS.ishr X.here hx rfl (hb hby d27_3) rfl kt)))) ?_
  exact oRetI X hx hlk hret (hb hby d27_4) (by rw [e0]; exact ⟨rfl, rfl, K⟩) (by decide) (by decide)
abbrev yy6 : MethodName := ⟨"java/lang/StringUTF16", "checkIndex", "(I[B)V"⟩
theorem d26_0 : decode jdk_52_method_91_code 0 = .ok (.iload_n 0, 1) := by decide +kernel
theorem d26_1 : decode jdk_52_method_91_code 1 = .ok (.aload_n 1, 1) := by decide +kernel
theorem d26_2 : decode jdk_52_method_91_code 2 = .ok (.invokestatic 48, 3) := by decide +kernel
theorem pd_2 : parseMethodDescriptor "([B)I" = some ⟨[(.array .byte)], some .int⟩ := by decide +kernel
theorem cs2 {a0 : Array Value} {Z : State} (hw : oHW a0 Z) : oCall Z Y1 (.invokestatic 48) yy5 jdk_52_method_6_code 1 (some .int) (oRs 1) := oCall.stat (oW hw 115 rfl) (oW hw 116 rfl) (oW hw 70 rfl) (oW hw 117 rfl) (by decide) pd_2
theorem d26_5 : decode jdk_52_method_91_code 5 = .ok (.invokestatic 414, 3) := by decide +kernel
theorem pd_3 : parseMethodDescriptor "(II)V" = some ⟨[.int, .int], none⟩ := by decide +kernel
theorem cs3 {a0 : Array Value} {Z : State} (hw : oHW a0 Z) : oCall Z Y1 (.invokestatic 414) yy4 jdk_42_method_155_code 2 none (oRs 2) := oCall.stat (oW hw 118 rfl) (oW hw 119 rfl) (oW hw 16 rfl) (oW hw 120 rfl) (by decide) pd_3
theorem d26_8 : decode jdk_52_method_91_code 8 = .ok (.return_, 1) := by decide +kernel
theorem rUCk_1_0 (l : Launch) (Z : State) (a0 : Array Value) (hw : oHW a0 Z) (ws : List Jvm.Cond) (xb : Addr) (xk : ClassId) (xfm : Value) (xc0 : Int32) (h0 : Heap) (O0 : Ext Z.heap h0) (S_F : Sta Z Z.heap Y4 Y5 Y6 xfm) (hcat : xfm.category = 1) (V_xb : Arv Z h0 xb xk .byte (2 : Int32) [(iu0 xc0), (iu8 xc0)] (.int (0 : Int32))) :
    oCon l Z yy6 jdk_52_method_91_code 2 none ws ({ frames := 2, cells := 0, slots := 0, locals := 27 } : Room) #[(.int (0 : Int32)), (.ref xb)] h0 (oPq none h0) := by
  refine oCon.of (plainFor_of_name pn_2) ?_
  intro p e s m below meth c T X hx hby hml hown hnm hret hlk hZ e0
  have hml : c.maxLocals = 2 := hml
  have K : oKp h0 h0 [] [] := oKp.nil _ _
  refine oWk.cast (g' := (mkF m 0 #[iv 0, rv xb] [])) (by first | rfl | (simp [entryFrame, mkF, argsToLocals, Value.category]; done)) ?_
  refine oWk.st (fun _ kt => zI X hx hby d26_0 rfl rfl (zA X hx hby d26_1 rfl rfl rfl kt)) ?_
  have Oh := K.old O0 all0
  obtain ⟨T, L2, X, e0, K, st⟩ := (cs2 hw).pure X hx hZ hown e0 K (A := [(.ref xb)]) rfl (rUL_1 l Z a0 hw [] xb xk xc0 h0 Oh V_xb) (W := 1) (by decide) hml (Ls := #[iv 0, rv xb]) rfl (rest := [(.int (0 : Int32))]) rfl rfl hby d26_2
  refine oWk.st (fun _ kt => st _ kt) ?_
  obtain ⟨T, L4, X, e0, K, st⟩ := (cs3 hw).pure X hx hZ hown e0 K (A := [(.int (0 : Int32)), (.int (1 : Int32))]) rfl (rCkI l Z a0 hw [] (0 : Int32) (1 : Int32) xfm h0 Oh S_F hcat (by decide) (by decide)) (W := 0) (by decide) hml (Ls := #[iv 0, rv xb]) rfl (rest := []) rfl rfl hby d26_5
  refine oWk.to (mkF m 8 #[iv 0, rv xb] []) (fun _ kt => st _ kt) ?_
  exact oRetV X hx hlk hret (hb hby d26_8) (by rw [e0]; exact ⟨rfl, rfl, K⟩) (by decide) (by decide)
abbrev yy7 : MethodName := ⟨"java/lang/StringUTF16", "getChar", "([BI)C"⟩
theorem d22_0 : decode jdk_52_method_5_code 0 = .ok (.getstatic 44, 3) := by decide +kernel
theorem d22_3 : decode jdk_52_method_5_code 3 = .ok (.ifCond .ne 25, 3) := by decide +kernel
theorem d22_28 : decode jdk_52_method_5_code 28 = .ok (.iload_n 1, 1) := by decide +kernel
theorem d22_29 : decode jdk_52_method_5_code 29 = .ok (.iconst 1, 1) := by decide +kernel
theorem d22_30 : decode jdk_52_method_5_code 30 = .ok (.ishl, 1) := by decide +kernel
theorem d22_31 : decode jdk_52_method_5_code 31 = .ok (.istore_n 1, 1) := by decide +kernel
theorem d22_32 : decode jdk_52_method_5_code 32 = .ok (.aload_n 0, 1) := by decide +kernel
theorem d22_33 : decode jdk_52_method_5_code 33 = .ok (.iload_n 1, 1) := by decide +kernel
theorem d22_34 : decode jdk_52_method_5_code 34 = .ok (.iinc 1 1, 3) := by decide +kernel
theorem d22_37 : decode jdk_52_method_5_code 37 = .ok (.baload, 1) := by decide +kernel
theorem d22_38 : decode jdk_52_method_5_code 38 = .ok (.sipush 255, 3) := by decide +kernel
theorem d22_41 : decode jdk_52_method_5_code 41 = .ok (.iand, 1) := by decide +kernel
theorem d22_42 : decode jdk_52_method_5_code 42 = .ok (.getstatic 59, 3) := by decide +kernel
theorem d22_45 : decode jdk_52_method_5_code 45 = .ok (.ishl, 1) := by decide +kernel
theorem d22_46 : decode jdk_52_method_5_code 46 = .ok (.aload_n 0, 1) := by decide +kernel
theorem d22_47 : decode jdk_52_method_5_code 47 = .ok (.iload_n 1, 1) := by decide +kernel
theorem d22_48 : decode jdk_52_method_5_code 48 = .ok (.baload, 1) := by decide +kernel
theorem d22_49 : decode jdk_52_method_5_code 49 = .ok (.sipush 255, 3) := by decide +kernel
theorem d22_52 : decode jdk_52_method_5_code 52 = .ok (.iand, 1) := by decide +kernel
theorem d22_53 : decode jdk_52_method_5_code 53 = .ok (.getstatic 63, 3) := by decide +kernel
theorem d22_56 : decode jdk_52_method_5_code 56 = .ok (.ishl, 1) := by decide +kernel
theorem d22_57 : decode jdk_52_method_5_code 57 = .ok (.ior, 1) := by decide +kernel
theorem d22_58 : decode jdk_52_method_5_code 58 = .ok (.i2c, 1) := by decide +kernel
theorem d22_59 : decode jdk_52_method_5_code 59 = .ok (.ireturn, 1) := by decide +kernel
theorem rGC_1_0 (l : Launch) (Z : State) (a0 : Array Value) (hw : oHW a0 Z) (ws : List Jvm.Cond) (xb : Addr) (xk : ClassId) (xc0 : Int32) (h0 : Heap) (O0 : Ext Z.heap h0) (S_A : Sta Z Z.heap Y1 Y3 "Z" (.int (1 : Int32))) (S_H : Sta Z Z.heap Y1 "HI_BYTE_SHIFT" "I" (.int (0 : Int32))) (S_L : Sta Z Z.heap Y1 "LO_BYTE_SHIFT" "I" (.int (8 : Int32))) (hr : 0 ≤ xc0.toInt ∧ xc0.toInt < 65536) (V_xb : Arv Z h0 xb xk .byte (2 : Int32) [(iu0 xc0), (iu8 xc0)] (.int (0 : Int32))) :
    oCon l Z yy7 jdk_52_method_5_code 2 (some .char) ws ({ frames := 0, cells := 0, slots := 0, locals := 0 } : Room) #[(.ref xb), (.int (0 : Int32))] h0 (oPq (some (.int xc0)) h0) := by
  refine oCon.of (plainFor_of_name pn_2) ?_
  intro p e s m below meth c T X hx hby hml hown hnm hret hlk hZ e0
  have hml : c.maxLocals = 2 := hml
  have K : oKp h0 h0 [] [] := oKp.nil _ _
  refine oWk.cast (g' := (mkF m 0 #[rv xb, iv 0] [])) (by first | rfl | (simp [entryFrame, mkF, argsToLocals, Value.category]; done)) ?_
  have Oh := K.old O0 all0
  obtain ⟨T, X, e0, st⟩ := getS2 X hx hZ hown (host := "") (Or.inl (oW hw 93 rfl)) Via.refl e0 (S_A.ext Oh) (g := (mkF m 0 #[rv xb, iv 0] [])) rfl (hb hby d22_0)
  refine oWk.to (mkF m 33 #[rv xb, iv 0] [(.ref xb)]) (fun _ kt => st _ (zF X hx hby d22_3 rfl rfl ((if0 _ _).trans (feq (by decide)).2) (pc' := 28) rfl (zI X hx hby d22_28 rfl rfl (zK X hx hby d22_29 rfl (XS.ishl X.here hx rfl (hb hby d22_30) rfl (zSn X hx hby d22_31 rfl rfl (l' := #[rv xb, iv 0]) rfl (zA X hx hby d22_32 rfl rfl rfl kt))))))) ?_
  refine oWk.st (fun _ kt => zI X hx hby d22_33 rfl rfl (zC X hx hby d22_34 rfl rfl (l' := #[rv xb, iv ((0 : Int32) + (1 : Int32))]) rfl (oLdB X hx hZ e0 V_xb (0 : Int32) (iu0 xc0) ⟨by decide, by decide⟩ rfl hby d22_37 rfl rfl (zM X hx hby d22_38 rfl (XS.iand X.here hx rfl (hb hby d22_41) rfl kt))))) ?_
  obtain ⟨T, X, e0, st⟩ := getS2 X hx hZ hown (host := "") (Or.inl (oW hw 94 rfl)) Via.refl e0 (S_H.ext Oh) (g := (mkF m 42 #[rv xb, iv 1] [(.int (((xc0 >>> ((0 : Int32) &&& 31)).toInt8.toInt32) &&& (255 : Int32)))])) rfl (hb hby d22_42)
  refine oWk.to (mkF m 53 #[rv xb, iv 1] [(.int (((xc0 >>> ((8 : Int32) &&& 31)).toInt8.toInt32) &&& (255 : Int32))), (.int ((((xc0 >>> ((0 : Int32) &&& 31)).toInt8.toInt32) &&& (255 : Int32)) <<< ((0 : Int32) &&& 31)))]) (fun _ kt => st _ (XS.ishl X.here hx rfl (hb hby d22_45) rfl (zA X hx hby d22_46 rfl rfl rfl (zI X hx hby d22_47 rfl rfl (oLdB X hx hZ e0 V_xb (1 : Int32) (iu8 xc0) ⟨by decide, by decide⟩ rfl hby d22_48 rfl rfl (zM X hx hby d22_49 rfl (XS.iand X.here hx rfl (hb hby d22_52) rfl kt))))))) ?_
  obtain ⟨T, X, e0, st⟩ := getS2 X hx hZ hown (host := "") (Or.inl (oW hw 95 rfl)) Via.refl e0 (S_L.ext Oh) (g := (mkF m 53 #[rv xb, iv 1] [(.int (((xc0 >>> ((8 : Int32) &&& 31)).toInt8.toInt32) &&& (255 : Int32))), (.int ((((xc0 >>> ((0 : Int32) &&& 31)).toInt8.toInt32) &&& (255 : Int32)) <<< ((0 : Int32) &&& 31)))])) rfl (hb hby d22_53)
  refine oWk.to (mkF m 59 #[rv xb, iv 1] [(.int ((((((xc0 >>> ((0 : Int32) &&& 31)).toInt8.toInt32) &&& (255 : Int32)) <<< ((0 : Int32) &&& 31)) ||| ((((xc0 >>> ((8 : Int32) &&& 31)).toInt8.toInt32) &&& (255 : Int32)) <<< ((8 : Int32) &&& 31))).toUInt32.toUInt16.toUInt32.toInt32))]) (fun _ kt => st _ (XS.ishl X.here hx rfl (hb hby d22_56) rfl (XS.ior X.here hx rfl (hb hby d22_57) rfl (XS.i2c X.here hx rfl (hb hby d22_58) rfl kt)))) ?_
  show oWk _ _ _ _ T (mkF m 59 #[rv xb, iv 1] [(.int ((((((xc0 >>> ((0 : Int32) &&& 31)).toInt8.toInt32) &&& (255 : Int32)) <<< ((0 : Int32) &&& 31)) ||| ((((xc0 >>> ((8 : Int32) &&& 31)).toInt8.toInt32) &&& (255 : Int32)) <<< ((8 : Int32) &&& 31))).toUInt32.toUInt16.toUInt32.toInt32))])
  rw [oU16 hr]
  show oWk _ _ _ _ T (mkF m 59 #[rv xb, iv 1] [(.int xc0)])
  exact oRetN X hx hlk hret (Or.inr (Or.inl rfl)) (show narrow .char (.int xc0) = .int xc0 from congrArg Value.int (oChrU hr)) (hb hby d22_59) (by rw [e0]; exact ⟨rfl, rfl, K⟩) (by decide) (by decide)
abbrev yy8 : MethodName := ⟨"java/lang/StringUTF16", "charAt", "([BI)C"⟩
theorem d25_0 : decode jdk_52_method_83_code 0 = .ok (.iload_n 1, 1) := by decide +kernel
theorem d25_1 : decode jdk_52_method_83_code 1 = .ok (.aload_n 0, 1) := by decide +kernel
theorem d25_2 : decode jdk_52_method_83_code 2 = .ok (.invokestatic 67, 3) := by decide +kernel
theorem pd_4 : parseMethodDescriptor "(I[B)V" = some ⟨[.int, (.array .byte)], none⟩ := by decide +kernel
theorem cs4 {a0 : Array Value} {Z : State} (hw : oHW a0 Z) : oCall Z Y1 (.invokestatic 67) yy6 jdk_52_method_91_code 2 none (oRs 2) := oCall.stat (oW hw 112 rfl) (oW hw 113 rfl) (oW hw 70 rfl) (oW hw 114 rfl) (by decide) pd_4
theorem d25_5 : decode jdk_52_method_83_code 5 = .ok (.aload_n 0, 1) := by decide +kernel
theorem d25_6 : decode jdk_52_method_83_code 6 = .ok (.iload_n 1, 1) := by decide +kernel
theorem d25_7 : decode jdk_52_method_83_code 7 = .ok (.invokestatic 71, 3) := by decide +kernel
theorem pd_5 : parseMethodDescriptor "([BI)C" = some ⟨[(.array .byte), .int], some .char⟩ := by decide +kernel
theorem cs5 {a0 : Array Value} {Z : State} (hw : oHW a0 Z) : oCall Z Y1 (.invokestatic 71) yy7 jdk_52_method_5_code 2 (some .char) (oRs 2) := oCall.stat (oW hw 96 rfl) (oW hw 97 rfl) (oW hw 70 rfl) (oW hw 98 rfl) (by decide) pd_5
theorem d25_10 : decode jdk_52_method_83_code 10 = .ok (.ireturn, 1) := by decide +kernel
theorem rUC_1_0 (l : Launch) (Z : State) (a0 : Array Value) (hw : oHW a0 Z) (ws : List Jvm.Cond) (xb : Addr) (xk : ClassId) (xfm : Value) (xc0 : Int32) (h0 : Heap) (O0 : Ext Z.heap h0) (S_A : Sta Z Z.heap Y1 Y3 "Z" (.int (1 : Int32))) (S_H : Sta Z Z.heap Y1 "HI_BYTE_SHIFT" "I" (.int (0 : Int32))) (S_L : Sta Z Z.heap Y1 "LO_BYTE_SHIFT" "I" (.int (8 : Int32))) (S_F : Sta Z Z.heap Y4 Y5 Y6 xfm) (hcat : xfm.category = 1) (hr : 0 ≤ xc0.toInt ∧ xc0.toInt < 65536) (V_xb : Arv Z h0 xb xk .byte (2 : Int32) [(iu0 xc0), (iu8 xc0)] (.int (0 : Int32))) :
    oCon l Z yy8 jdk_52_method_83_code 2 (some .char) ws ({ frames := 3, cells := 0, slots := 0, locals := 40 } : Room) #[(.ref xb), (.int (0 : Int32))] h0 (oPq (some (.int xc0)) h0) := by
  refine oCon.of (plainFor_of_name pn_2) ?_
  intro p e s m below meth c T X hx hby hml hown hnm hret hlk hZ e0
  have hml : c.maxLocals = 2 := hml
  have K : oKp h0 h0 [] [] := oKp.nil _ _
  refine oWk.cast (g' := (mkF m 0 #[rv xb, iv 0] [])) (by first | rfl | (simp [entryFrame, mkF, argsToLocals, Value.category]; done)) ?_
  refine oWk.st (fun _ kt => zI X hx hby d25_0 rfl rfl (zA X hx hby d25_1 rfl rfl rfl kt)) ?_
  have Oh := K.old O0 all0
  obtain ⟨T, L2, X, e0, K, st⟩ := (cs4 hw).pure X hx hZ hown e0 K (A := [(.int (0 : Int32)), (.ref xb)]) rfl (rUCk_1_0 l Z a0 hw [] xb xk xfm xc0 h0 Oh S_F hcat V_xb) (W := 0) (by decide) hml (Ls := #[rv xb, iv 0]) rfl (rest := []) rfl rfl hby d25_2
  refine oWk.st (fun _ kt => st _ (zA X hx hby d25_5 rfl rfl rfl (zI X hx hby d25_6 rfl rfl kt))) ?_
  obtain ⟨T, L4, X, e0, K, st⟩ := (cs5 hw).pure X hx hZ hown e0 K (A := [(.ref xb), (.int (0 : Int32))]) rfl (rGC_1_0 l Z a0 hw [] xb xk xc0 h0 Oh S_A S_H S_L hr V_xb) (W := 0) (by decide) hml (Ls := #[rv xb, iv 0]) rfl (rest := []) rfl rfl hby d25_7
  refine oWk.to (mkF m 10 #[rv xb, iv 0] [(.int xc0)]) (fun _ kt => st _ kt) ?_
  exact oRetN X hx hlk hret (Or.inr (Or.inl rfl)) (show narrow .char (.int xc0) = .int xc0 from congrArg Value.int (oChrU hr)) (hb hby d25_10) (by rw [e0]; exact ⟨rfl, rfl, K⟩) (by decide) (by decide)
abbrev yy9 : MethodName := ⟨"java/lang/String", "charAt", "(I)C"⟩
theorem d23_0 : decode jdk_42_method_56_code 0 = .ok (.aload_n 0, 1) := by decide +kernel
theorem d23_1 : decode jdk_42_method_56_code 1 = .ok (.invokevirtual 492, 3) := by decide +kernel
theorem pd_6 : parseMethodDescriptor "()Z" = some ⟨[], some .boolean⟩ := by decide +kernel
theorem cs6 {a0 : Array Value} {Z : State} (hw : oHW a0 Z) : oCall Z Y0 (.invokevirtual 492) yy1 jdk_42_method_154_code 1 (some .boolean) (oRv Z 0 Y0) := oCall.virt (oW hw 104 rfl) (oW hw 105 rfl) (fun _ hZ => notFace_of_selects (args := #[]) (mvT hZ (oW hw 107 rfl))) (oW hw 107 rfl) (oW hw 106 rfl) (oW hw 16 rfl) (oW hw 108 rfl) (by decide) pd_6
theorem d23_4 : decode jdk_42_method_56_code 4 = .ok (.ifCond .eq 12, 3) := by decide +kernel
theorem d23_16 : decode jdk_42_method_56_code 16 = .ok (.aload_n 0, 1) := by decide +kernel
theorem d23_17 : decode jdk_42_method_56_code 17 = .ok (.getfield 9, 3) := by decide +kernel
theorem d23_20 : decode jdk_42_method_56_code 20 = .ok (.iload_n 1, 1) := by decide +kernel
theorem d23_21 : decode jdk_42_method_56_code 21 = .ok (.invokestatic 498, 3) := by decide +kernel
theorem cs7 {a0 : Array Value} {Z : State} (hw : oHW a0 Z) : oCall Z Y0 (.invokestatic 498) yy8 jdk_52_method_83_code 2 (some .char) (oRs 2) := oCall.stat (oW hw 109 rfl) (oW hw 110 rfl) (oW hw 70 rfl) (oW hw 111 rfl) (by decide) pd_5
theorem d23_24 : decode jdk_42_method_56_code 24 = .ok (.ireturn, 1) := by decide +kernel
theorem rCAU_1_0 (l : Launch) (Z : State) (a0 : Array Value) (hw : oHW a0 Z) (ws : List Jvm.Cond) (xa xb : Addr) (xk : ClassId) (xfm : Value) (xz xc0 : Int32) (h0 : Heap) (O0 : Ext Z.heap h0) (S_Z : Sta Z Z.heap Y0 Y2 "Z" (.int xz)) (hz : ¬ xz = (0 : Int32)) (S_A : Sta Z Z.heap Y1 Y3 "Z" (.int (1 : Int32))) (S_H : Sta Z Z.heap Y1 "HI_BYTE_SHIFT" "I" (.int (0 : Int32))) (S_L : Sta Z Z.heap Y1 "LO_BYTE_SHIFT" "I" (.int (8 : Int32))) (S_F : Sta Z Z.heap Y4 Y5 Y6 xfm) (hcat : xfm.category = 1) (hr : 0 ≤ xc0.toInt ∧ xc0.toInt < 65536) (E_xa : Exa Z h0 xa Y0) (F_coder_xa : Fld Z h0 xa Y0 "coder" "B" (.int (1 : Int32))) (F_value_xa : Fld Z h0 xa Y0 "value" "[B" (.ref xb)) (V_xb : Arv Z h0 xb xk .byte (2 : Int32) [(iu0 xc0), (iu8 xc0)] (.int (0 : Int32))) :
    oCon l Z yy9 jdk_42_method_56_code 2 (some .char) ws ({ frames := 4, cells := 0, slots := 0, locals := 53 } : Room) #[(.ref xa), (.int (0 : Int32))] h0 (oPq (some (.int xc0)) h0) := by
  refine oCon.of (plainFor_of_name pn_0) ?_
  intro p e s m below meth c T X hx hby hml hown hnm hret hlk hZ e0
  have hml : c.maxLocals = 2 := hml
  have K : oKp h0 h0 [] [] := oKp.nil _ _
  refine oWk.cast (g' := (mkF m 0 #[rv xa, iv 0] [])) (by first | rfl | (simp [entryFrame, mkF, argsToLocals, Value.category]; done)) ?_
  refine oWk.st (fun _ kt => zA X hx hby d23_0 rfl rfl rfl kt) ?_
  have Oh := K.old O0 all0
  obtain ⟨T, L2, X, e0, K, st⟩ := (cs6 hw).pure X hx hZ hown e0 K (A := [(.ref xa)]) ⟨rfl, _, _, rfl, E_xa⟩ (rIsL1 l Z a0 hw [] xa xz h0 Oh S_Z hz F_coder_xa) (W := 0) (by decide) hml (Ls := #[rv xa, iv 0]) rfl (rest := []) rfl rfl hby d23_1
  refine oWk.st (fun _ kt => st _ (zF X hx hby d23_4 rfl rfl ((if0 _ _).trans (teq (by decide)).1) (pc' := 16) rfl (zA X hx hby d23_16 rfl rfl rfl kt))) ?_
  obtain ⟨T, X, e0, st⟩ := getF X hx hZ hown (host := "") (Or.inl (oW hw 33 rfl)) Via.refl e0 F_value_xa (g := (mkF m 17 #[rv xa, iv 0] [(.ref xa)])) rfl rfl (hb hby d23_17)
  refine oWk.st (fun _ kt => st _ (zI X hx hby d23_20 rfl rfl kt)) ?_
  obtain ⟨T, L4, X, e0, K, st⟩ := (cs7 hw).pure X hx hZ hown e0 K (A := [(.ref xb), (.int (0 : Int32))]) rfl (rUC_1_0 l Z a0 hw [] xb xk xfm xc0 h0 Oh S_A S_H S_L S_F hcat hr V_xb) (W := 0) (by decide) hml (Ls := #[rv xa, iv 0]) rfl (rest := []) rfl rfl hby d23_21
  refine oWk.to (mkF m 24 #[rv xa, iv 0] [(.int xc0)]) (fun _ kt => st _ kt) ?_
  exact oRetN X hx hlk hret (Or.inr (Or.inl rfl)) (show narrow .char (.int xc0) = .int xc0 from congrArg Value.int (oChrU hr)) (hb hby d23_24) (by rw [e0]; exact ⟨rfl, rfl, K⟩) (by decide) (by decide)
theorem pn_3 : plainName "java/lang/StringLatin1" = true := by first | (simp [plainName, overriddenIn]; done) | decide +kernel
abbrev yy10 : MethodName := ⟨"java/lang/StringLatin1", "charAt", "([BI)C"⟩
theorem d31_0 : decode jdk_43_method_2_code 0 = .ok (.iload_n 1, 1) := by decide +kernel
theorem d31_1 : decode jdk_43_method_2_code 1 = .ok (.aload_n 0, 1) := by decide +kernel
theorem d31_2 : decode jdk_43_method_2_code 2 = .ok (.arraylength, 1) := by decide +kernel
theorem d31_3 : decode jdk_43_method_2_code 3 = .ok (.invokestatic 9, 3) := by decide +kernel
theorem cs8 {a0 : Array Value} {Z : State} (hw : oHW a0 Z) : oCall Z "java/lang/StringLatin1" (.invokestatic 9) yy4 jdk_42_method_155_code 2 none (oRs 2) := oCall.stat (oW hw 136 rfl) (oW hw 119 rfl) (oW hw 16 rfl) (oW hw 120 rfl) (by decide) pd_3
theorem d31_6 : decode jdk_43_method_2_code 6 = .ok (.aload_n 0, 1) := by decide +kernel
theorem d31_7 : decode jdk_43_method_2_code 7 = .ok (.iload_n 1, 1) := by decide +kernel
theorem d31_8 : decode jdk_43_method_2_code 8 = .ok (.baload, 1) := by decide +kernel
theorem d31_9 : decode jdk_43_method_2_code 9 = .ok (.sipush 255, 3) := by decide +kernel
theorem d31_12 : decode jdk_43_method_2_code 12 = .ok (.iand, 1) := by decide +kernel
theorem d31_13 : decode jdk_43_method_2_code 13 = .ok (.i2c, 1) := by decide +kernel
theorem d31_14 : decode jdk_43_method_2_code 14 = .ok (.ireturn, 1) := by decide +kernel
theorem rLC_1_0 (l : Launch) (Z : State) (a0 : Array Value) (hw : oHW a0 Z) (ws : List Jvm.Cond) (xb : Addr) (xk : ClassId) (xfm : Value) (xc0 : Int32) (h0 : Heap) (O0 : Ext Z.heap h0) (S_F : Sta Z Z.heap Y4 Y5 Y6 xfm) (hcat : xfm.category = 1) (hr : 0 ≤ xc0.toInt ∧ xc0.toInt < 256) (V_xb : Arv Z h0 xb xk .byte (1 : Int32) [(ib xc0)] (.int (0 : Int32))) :
    oCon l Z yy10 jdk_43_method_2_code 2 (some .char) ws ({ frames := 2, cells := 0, slots := 0, locals := 27 } : Room) #[(.ref xb), (.int (0 : Int32))] h0 (oPq (some (.int xc0)) h0) := by
  refine oCon.of (plainFor_of_name pn_3) ?_
  intro p e s m below meth c T X hx hby hml hown hnm hret hlk hZ e0
  have hml : c.maxLocals = 2 := hml
  have K : oKp h0 h0 [] [] := oKp.nil _ _
  refine oWk.cast (g' := (mkF m 0 #[rv xb, iv 0] [])) (by first | rfl | (simp [entryFrame, mkF, argsToLocals, Value.category]; done)) ?_
  refine oWk.st (fun _ kt => zI X hx hby d31_0 rfl rfl (zA X hx hby d31_1 rfl rfl rfl (oAl X hx hZ e0 V_xb hby d31_2 rfl rfl kt))) ?_
  have Oh := K.old O0 all0
  obtain ⟨T, L3, X, e0, K, st⟩ := (cs8 hw).pure X hx hZ hown e0 K (A := [(.int (0 : Int32)), (.int (1 : Int32))]) rfl (rCkI l Z a0 hw [] (0 : Int32) (1 : Int32) xfm h0 Oh S_F hcat (by decide) (by decide)) (W := 0) (by decide) hml (Ls := #[rv xb, iv 0]) rfl (rest := []) rfl rfl hby d31_3
  refine oWk.to (mkF m 14 #[rv xb, iv 0] [(.int (((xc0.toInt8.toInt32) &&& (255 : Int32)).toUInt32.toUInt16.toUInt32.toInt32))]) (fun _ kt => st _ (zA X hx hby d31_6 rfl rfl rfl (zI X hx hby d31_7 rfl rfl (oLdB X hx hZ e0 V_xb (0 : Int32) (ib xc0) ⟨by decide, by decide⟩ rfl hby d31_8 rfl rfl (zM X hx hby d31_9 rfl (XS.iand X.here hx rfl (hb hby d31_12) rfl (XS.i2c X.here hx rfl (hb hby d31_13) rfl kt))))))) ?_
  rw [oBk hr]
  show oWk _ _ _ _ T (mkF m 14 #[rv xb, iv 0] [(.int xc0)])
  exact oRetN X hx hlk hret (Or.inr (Or.inl rfl)) (show narrow .char (.int xc0) = .int xc0 from congrArg Value.int (oChr hr)) (hb hby d31_14) (by rw [e0]; exact ⟨rfl, rfl, K⟩) (by decide) (by decide)
theorem d23_7 : decode jdk_42_method_56_code 7 = .ok (.aload_n 0, 1) := by decide +kernel
theorem d23_8 : decode jdk_42_method_56_code 8 = .ok (.getfield 9, 3) := by decide +kernel
theorem d23_11 : decode jdk_42_method_56_code 11 = .ok (.iload_n 1, 1) := by decide +kernel
theorem d23_12 : decode jdk_42_method_56_code 12 = .ok (.invokestatic 495, 3) := by decide +kernel
theorem cs9 {a0 : Array Value} {Z : State} (hw : oHW a0 Z) : oCall Z Y0 (.invokestatic 495) yy10 jdk_43_method_2_code 2 (some .char) (oRs 2) := oCall.stat (oW hw 132 rfl) (oW hw 133 rfl) (oW hw 134 rfl) (oW hw 135 rfl) (by decide) pd_5
theorem d23_15 : decode jdk_42_method_56_code 15 = .ok (.ireturn, 1) := by decide +kernel
theorem rCA_1_0 (l : Launch) (Z : State) (a0 : Array Value) (hw : oHW a0 Z) (ws : List Jvm.Cond) (xa xb : Addr) (xk : ClassId) (xfm : Value) (xz xc0 : Int32) (h0 : Heap) (O0 : Ext Z.heap h0) (S_Z : Sta Z Z.heap Y0 Y2 "Z" (.int xz)) (hz : ¬ xz = (0 : Int32)) (S_F : Sta Z Z.heap Y4 Y5 Y6 xfm) (hcat : xfm.category = 1) (hr : 0 ≤ xc0.toInt ∧ xc0.toInt < 256) (E_xa : Exa Z h0 xa Y0) (F_coder_xa : Fld Z h0 xa Y0 "coder" "B" (.int (0 : Int32))) (F_value_xa : Fld Z h0 xa Y0 "value" "[B" (.ref xb)) (V_xb : Arv Z h0 xb xk .byte (1 : Int32) [(ib xc0)] (.int (0 : Int32))) :
    oCon l Z yy9 jdk_42_method_56_code 2 (some .char) ws ({ frames := 4, cells := 0, slots := 0, locals := 53 } : Room) #[(.ref xa), (.int (0 : Int32))] h0 (oPq (some (.int xc0)) h0) := by
  refine oCon.of (plainFor_of_name pn_0) ?_
  intro p e s m below meth c T X hx hby hml hown hnm hret hlk hZ e0
  have hml : c.maxLocals = 2 := hml
  have K : oKp h0 h0 [] [] := oKp.nil _ _
  refine oWk.cast (g' := (mkF m 0 #[rv xa, iv 0] [])) (by first | rfl | (simp [entryFrame, mkF, argsToLocals, Value.category]; done)) ?_
  refine oWk.st (fun _ kt => zA X hx hby d23_0 rfl rfl rfl kt) ?_
  have Oh := K.old O0 all0
  obtain ⟨T, L2, X, e0, K, st⟩ := (cs6 hw).pure X hx hZ hown e0 K (A := [(.ref xa)]) ⟨rfl, _, _, rfl, E_xa⟩ (rIsL l Z a0 hw [] xa xz h0 Oh S_Z hz F_coder_xa) (W := 0) (by decide) hml (Ls := #[rv xa, iv 0]) rfl (rest := []) rfl rfl hby d23_1
  refine oWk.st (fun _ kt => st _ (zH X hx hby d23_4 rfl rfl ((if0 _ _).trans (feq (by decide)).1) (zA X hx hby d23_7 rfl rfl rfl kt))) ?_
  obtain ⟨T, X, e0, st⟩ := getF X hx hZ hown (host := "") (Or.inl (oW hw 33 rfl)) Via.refl e0 F_value_xa (g := (mkF m 8 #[rv xa, iv 0] [(.ref xa)])) rfl rfl (hb hby d23_8)
  refine oWk.st (fun _ kt => st _ (zI X hx hby d23_11 rfl rfl kt)) ?_
  obtain ⟨T, L4, X, e0, K, st⟩ := (cs9 hw).pure X hx hZ hown e0 K (A := [(.ref xb), (.int (0 : Int32))]) rfl (rLC_1_0 l Z a0 hw [] xb xk xfm xc0 h0 Oh S_F hcat hr V_xb) (W := 0) (by decide) hml (Ls := #[rv xa, iv 0]) rfl (rest := []) rfl rfl hby d23_12
  refine oWk.to (mkF m 15 #[rv xa, iv 0] [(.int xc0)]) (fun _ kt => st _ kt) ?_
  exact oRetN X hx hlk hret (Or.inr (Or.inl rfl)) (show narrow .char (.int xc0) = .int xc0 from congrArg Value.int (oChr hr)) (hb hby d23_15) (by rw [e0]; exact ⟨rfl, rfl, K⟩) (by decide) (by decide)
theorem rCAT_1_0 (l : Launch) (Z : State) (a0 : Array Value) (hw : oHW a0 Z) (ws : List Jvm.Cond) (xa : Addr) (xfm : Value) (xz xc0 : Int32) (h0 : Heap) (O0 : Ext Z.heap h0) (S_Z : Sta Z Z.heap Y0 Y2 "Z" (.int xz)) (hz : ¬ xz = (0 : Int32)) (S_A : Sta Z Z.heap Y1 Y3 "Z" (.int (1 : Int32))) (S_H : Sta Z Z.heap Y1 "HI_BYTE_SHIFT" "I" (.int (0 : Int32))) (S_L : Sta Z Z.heap Y1 "LO_BYTE_SHIFT" "I" (.int (8 : Int32))) (S_F : Sta Z Z.heap Y4 Y5 Y6 xfm) (hcat : xfm.category = 1) (T_xa : oTx Z h0 xa [xc0]) :
    oCon l Z yy9 jdk_42_method_56_code 2 (some .char) ws ({ frames := 4, cells := 0, slots := 0, locals := 53 } : Room) #[(.ref xa), (.int (0 : Int32))] h0 (oPq (some (.int xc0)) h0) := by
  obtain ⟨b, k, E, V, ⟨C, A, R⟩ | ⟨C, A, R⟩⟩ := T_xa
  · exact rCA_1_0 l Z a0 hw ws xa b k xfm xz xc0 h0 O0 S_Z hz S_F hcat (R _ (List.mem_of_getElem? (i := 0) rfl)) E C V A
  · exact rCAU_1_0 l Z a0 hw ws xa b k xfm xz xc0 h0 O0 S_Z hz S_A S_H S_L S_F hcat (R _ (List.mem_of_getElem? (i := 0) rfl)) E C V A
theorem rLnU_2 (l : Launch) (Z : State) (a0 : Array Value) (hw : oHW a0 Z) (ws : List Jvm.Cond) (xa xb : Addr) (xk : ClassId) (xz xc0 xc1 : Int32) (h0 : Heap) (O0 : Ext Z.heap h0) (S_Z : Sta Z Z.heap Y0 Y2 "Z" (.int xz)) (hz : ¬ xz = (0 : Int32)) (E_xa : Exa Z h0 xa Y0) (F_coder_xa : Fld Z h0 xa Y0 "coder" "B" (.int (1 : Int32))) (F_value_xa : Fld Z h0 xa Y0 "value" "[B" (.ref xb)) (V_xb : Arv Z h0 xb xk .byte (4 : Int32) [(iu0 xc0), (iu8 xc0), (iu0 xc1), (iu8 xc1)] (.int (0 : Int32))) :
    oCon l Z yy2 jdk_42_method_54_code 1 (some .int) ws ({ frames := 1, cells := 0, slots := 0, locals := 13 } : Room) #[(.ref xa)] h0 (oPq (some (.int (2 : Int32))) h0) := by
  refine oCon.of (plainFor_of_name pn_0) ?_
  intro p e s m below meth c T X hx hby hml hown hnm hret hlk hZ e0
  have hml : c.maxLocals = 1 := hml
  have K : oKp h0 h0 [] [] := oKp.nil _ _
  refine oWk.cast (g' := (mkF m 0 #[rv xa] [])) (by first | rfl | (simp [entryFrame, mkF, argsToLocals, Value.category]; done)) ?_
  refine oWk.st (fun _ kt => zA X hx hby d8_0 rfl rfl rfl kt) ?_
  obtain ⟨T, X, e0, st⟩ := getF X hx hZ hown (host := "") (Or.inl (oW hw 33 rfl)) Via.refl e0 F_value_xa (g := (mkF m 1 #[rv xa] [(.ref xa)])) rfl rfl (hb hby d8_1)
  refine oWk.st (fun _ kt => st _ (oAl X hx hZ e0 V_xb hby d8_4 rfl rfl (zA X hx hby d8_5 rfl rfl rfl kt))) ?_
  have Oh := K.old O0 all0
  obtain ⟨T, L3, X, e0, K, st⟩ := (cs0 hw).pure X hx hZ hown e0 K (A := [(.ref xa)]) ⟨rfl, _, _, rfl, E_xa⟩ (rCdr1 l Z a0 hw [] xa xz h0 Oh S_Z hz F_coder_xa) (W := 1) (by decide) hml (Ls := #[rv xa]) rfl (rest := [(.int (4 : Int32))]) rfl rfl hby d8_6
  refine oWk.to (mkF m 10 #[rv xa] [(.int 2)]) (fun _ kt => st _ (XS.ishr X.here hx rfl (hb hby d8_9) rfl kt)) ?_
  exact oRetI X hx hlk hret (hb hby d8_10) (by rw [e0]; exact ⟨rfl, rfl, K⟩) (by decide) (by decide)
theorem rLn_2 (l : Launch) (Z : State) (a0 : Array Value) (hw : oHW a0 Z) (ws : List Jvm.Cond) (xa xb : Addr) (xk : ClassId) (xz xc0 xc1 : Int32) (h0 : Heap) (O0 : Ext Z.heap h0) (S_Z : Sta Z Z.heap Y0 Y2 "Z" (.int xz)) (hz : ¬ xz = (0 : Int32)) (E_xa : Exa Z h0 xa Y0) (F_coder_xa : Fld Z h0 xa Y0 "coder" "B" (.int (0 : Int32))) (F_value_xa : Fld Z h0 xa Y0 "value" "[B" (.ref xb)) (V_xb : Arv Z h0 xb xk .byte (2 : Int32) [(ib xc0), (ib xc1)] (.int (0 : Int32))) :
    oCon l Z yy2 jdk_42_method_54_code 1 (some .int) ws ({ frames := 1, cells := 0, slots := 0, locals := 13 } : Room) #[(.ref xa)] h0 (oPq (some (.int (2 : Int32))) h0) := by
  refine oCon.of (plainFor_of_name pn_0) ?_
  intro p e s m below meth c T X hx hby hml hown hnm hret hlk hZ e0
  have hml : c.maxLocals = 1 := hml
  have K : oKp h0 h0 [] [] := oKp.nil _ _
  refine oWk.cast (g' := (mkF m 0 #[rv xa] [])) (by first | rfl | (simp [entryFrame, mkF, argsToLocals, Value.category]; done)) ?_
  refine oWk.st (fun _ kt => zA X hx hby d8_0 rfl rfl rfl kt) ?_
  obtain ⟨T, X, e0, st⟩ := getF X hx hZ hown (host := "") (Or.inl (oW hw 33 rfl)) Via.refl e0 F_value_xa (g := (mkF m 1 #[rv xa] [(.ref xa)])) rfl rfl (hb hby d8_1)
  refine oWk.st (fun _ kt => st _ (oAl X hx hZ e0 V_xb hby d8_4 rfl rfl (zA X hx hby d8_5 rfl rfl rfl kt))) ?_
  have Oh := K.old O0 all0
  obtain ⟨T, L3, X, e0, K, st⟩ := (cs0 hw).pure X hx hZ hown e0 K (A := [(.ref xa)]) ⟨rfl, _, _, rfl, E_xa⟩ (rCdr l Z a0 hw [] xa xz h0 Oh S_Z hz F_coder_xa) (W := 1) (by decide) hml (Ls := #[rv xa]) rfl (rest := [(.int (2 : Int32))]) rfl rfl hby d8_6
  refine oWk.to (mkF m 10 #[rv xa] [(.int 2)]) (fun _ kt => st _ (XS.ishr X.here hx rfl (hb hby d8_9) rfl kt)) ?_
  exact oRetI X hx hlk hret (hb hby d8_10) (by rw [e0]; exact ⟨rfl, rfl, K⟩) (by decide) (by decide)
theorem rLnT_2 (l : Launch) (Z : State) (a0 : Array Value) (hw : oHW a0 Z) (ws : List Jvm.Cond) (xa : Addr) (xz xc0 xc1 : Int32) (h0 : Heap) (O0 : Ext Z.heap h0) (S_Z : Sta Z Z.heap Y0 Y2 "Z" (.int xz)) (hz : ¬ xz = (0 : Int32)) (T_xa : oTx Z h0 xa [xc0, xc1]) :
    oCon l Z yy2 jdk_42_method_54_code 1 (some .int) ws ({ frames := 1, cells := 0, slots := 0, locals := 13 } : Room) #[(.ref xa)] h0 (oPq (some (.int (2 : Int32))) h0) := by
  obtain ⟨b, k, E, V, ⟨C, A, R⟩ | ⟨C, A, R⟩⟩ := T_xa
  · exact rLn_2 l Z a0 hw ws xa b k xz xc0 xc1 h0 O0 S_Z hz E C V A
  · exact rLnU_2 l Z a0 hw ws xa b k xz xc0 xc1 h0 O0 S_Z hz E C V A
theorem rUL_2 (l : Launch) (Z : State) (a0 : Array Value) (hw : oHW a0 Z) (ws : List Jvm.Cond) (xb : Addr) (xk : ClassId) (xc0 xc1 : Int32) (h0 : Heap) (O0 : Ext Z.heap h0) (V_xb : Arv Z h0 xb xk .byte (4 : Int32) [(iu0 xc0), (iu8 xc0), (iu0 xc1), (iu8 xc1)] (.int (0 : Int32))) :
    oCon l Z yy5 jdk_52_method_6_code 1 (some .int) ws ({ frames := 0, cells := 0, slots := 0, locals := 0 } : Room) #[(.ref xb)] h0 (oPq (some (.int (2 : Int32))) h0) := by
  refine oCon.of (plainFor_of_name pn_2) ?_
  intro p e s m below meth c T X hx hby hml hown hnm hret hlk hZ e0
  have hml : c.maxLocals = 1 := hml
  have K : oKp h0 h0 [] [] := oKp.nil _ _
  refine oWk.cast (g' := (mkF m 0 #[rv xb] [])) (by first | rfl | (simp [entryFrame, mkF, argsToLocals, Value.category]; done)) ?_
  refine oWk.to (mkF m 4 #[rv xb] [(.int 2)]) (fun _ kt => zA X hx hby d27_0 rfl rfl rfl (oAl X hx hZ e0 V_xb hby d27_1 rfl rfl (zK X hx hby d27_2 rfl (XS.ishr X.here hx rfl (hb hby d27_3) rfl kt)))) ?_
  exact oRetI X hx hlk hret (hb hby d27_4) (by rw [e0]; exact ⟨rfl, rfl, K⟩) (by decide) (by decide)
theorem rUCk_2_0 (l : Launch) (Z : State) (a0 : Array Value) (hw : oHW a0 Z) (ws : List Jvm.Cond) (xb : Addr) (xk : ClassId) (xfm : Value) (xc0 xc1 : Int32) (h0 : Heap) (O0 : Ext Z.heap h0) (S_F : Sta Z Z.heap Y4 Y5 Y6 xfm) (hcat : xfm.category = 1) (V_xb : Arv Z h0 xb xk .byte (4 : Int32) [(iu0 xc0), (iu8 xc0), (iu0 xc1), (iu8 xc1)] (.int (0 : Int32))) :
    oCon l Z yy6 jdk_52_method_91_code 2 none ws ({ frames := 2, cells := 0, slots := 0, locals := 27 } : Room) #[(.int (0 : Int32)), (.ref xb)] h0 (oPq none h0) := by
  refine oCon.of (plainFor_of_name pn_2) ?_
  intro p e s m below meth c T X hx hby hml hown hnm hret hlk hZ e0
  have hml : c.maxLocals = 2 := hml
  have K : oKp h0 h0 [] [] := oKp.nil _ _
  refine oWk.cast (g' := (mkF m 0 #[iv 0, rv xb] [])) (by first | rfl | (simp [entryFrame, mkF, argsToLocals, Value.category]; done)) ?_
  refine oWk.st (fun _ kt => zI X hx hby d26_0 rfl rfl (zA X hx hby d26_1 rfl rfl rfl kt)) ?_
  have Oh := K.old O0 all0
  obtain ⟨T, L2, X, e0, K, st⟩ := (cs2 hw).pure X hx hZ hown e0 K (A := [(.ref xb)]) rfl (rUL_2 l Z a0 hw [] xb xk xc0 xc1 h0 Oh V_xb) (W := 1) (by decide) hml (Ls := #[iv 0, rv xb]) rfl (rest := [(.int (0 : Int32))]) rfl rfl hby d26_2
  refine oWk.st (fun _ kt => st _ kt) ?_
  obtain ⟨T, L4, X, e0, K, st⟩ := (cs3 hw).pure X hx hZ hown e0 K (A := [(.int (0 : Int32)), (.int (2 : Int32))]) rfl (rCkI l Z a0 hw [] (0 : Int32) (2 : Int32) xfm h0 Oh S_F hcat (by decide) (by decide)) (W := 0) (by decide) hml (Ls := #[iv 0, rv xb]) rfl (rest := []) rfl rfl hby d26_5
  refine oWk.to (mkF m 8 #[iv 0, rv xb] []) (fun _ kt => st _ kt) ?_
  exact oRetV X hx hlk hret (hb hby d26_8) (by rw [e0]; exact ⟨rfl, rfl, K⟩) (by decide) (by decide)
theorem rGC_2_0 (l : Launch) (Z : State) (a0 : Array Value) (hw : oHW a0 Z) (ws : List Jvm.Cond) (xb : Addr) (xk : ClassId) (xc0 xc1 : Int32) (h0 : Heap) (O0 : Ext Z.heap h0) (S_A : Sta Z Z.heap Y1 Y3 "Z" (.int (1 : Int32))) (S_H : Sta Z Z.heap Y1 "HI_BYTE_SHIFT" "I" (.int (0 : Int32))) (S_L : Sta Z Z.heap Y1 "LO_BYTE_SHIFT" "I" (.int (8 : Int32))) (hr : 0 ≤ xc0.toInt ∧ xc0.toInt < 65536) (V_xb : Arv Z h0 xb xk .byte (4 : Int32) [(iu0 xc0), (iu8 xc0), (iu0 xc1), (iu8 xc1)] (.int (0 : Int32))) :
    oCon l Z yy7 jdk_52_method_5_code 2 (some .char) ws ({ frames := 0, cells := 0, slots := 0, locals := 0 } : Room) #[(.ref xb), (.int (0 : Int32))] h0 (oPq (some (.int xc0)) h0) := by
  refine oCon.of (plainFor_of_name pn_2) ?_
  intro p e s m below meth c T X hx hby hml hown hnm hret hlk hZ e0
  have hml : c.maxLocals = 2 := hml
  have K : oKp h0 h0 [] [] := oKp.nil _ _
  refine oWk.cast (g' := (mkF m 0 #[rv xb, iv 0] [])) (by first | rfl | (simp [entryFrame, mkF, argsToLocals, Value.category]; done)) ?_
  have Oh := K.old O0 all0
  obtain ⟨T, X, e0, st⟩ := getS2 X hx hZ hown (host := "") (Or.inl (oW hw 93 rfl)) Via.refl e0 (S_A.ext Oh) (g := (mkF m 0 #[rv xb, iv 0] [])) rfl (hb hby d22_0)
  refine oWk.to (mkF m 33 #[rv xb, iv 0] [(.ref xb)]) (fun _ kt => st _ (zF X hx hby d22_3 rfl rfl ((if0 _ _).trans (feq (by decide)).2) (pc' := 28) rfl (zI X hx hby d22_28 rfl rfl (zK X hx hby d22_29 rfl (XS.ishl X.here hx rfl (hb hby d22_30) rfl (zSn X hx hby d22_31 rfl rfl (l' := #[rv xb, iv 0]) rfl (zA X hx hby d22_32 rfl rfl rfl kt))))))) ?_
  refine oWk.st (fun _ kt => zI X hx hby d22_33 rfl rfl (zC X hx hby d22_34 rfl rfl (l' := #[rv xb, iv ((0 : Int32) + (1 : Int32))]) rfl (oLdB X hx hZ e0 V_xb (0 : Int32) (iu0 xc0) ⟨by decide, by decide⟩ rfl hby d22_37 rfl rfl (zM X hx hby d22_38 rfl (XS.iand X.here hx rfl (hb hby d22_41) rfl kt))))) ?_
  obtain ⟨T, X, e0, st⟩ := getS2 X hx hZ hown (host := "") (Or.inl (oW hw 94 rfl)) Via.refl e0 (S_H.ext Oh) (g := (mkF m 42 #[rv xb, iv 1] [(.int (((xc0 >>> ((0 : Int32) &&& 31)).toInt8.toInt32) &&& (255 : Int32)))])) rfl (hb hby d22_42)
  refine oWk.to (mkF m 53 #[rv xb, iv 1] [(.int (((xc0 >>> ((8 : Int32) &&& 31)).toInt8.toInt32) &&& (255 : Int32))), (.int ((((xc0 >>> ((0 : Int32) &&& 31)).toInt8.toInt32) &&& (255 : Int32)) <<< ((0 : Int32) &&& 31)))]) (fun _ kt => st _ (XS.ishl X.here hx rfl (hb hby d22_45) rfl (zA X hx hby d22_46 rfl rfl rfl (zI X hx hby d22_47 rfl rfl (oLdB X hx hZ e0 V_xb (1 : Int32) (iu8 xc0) ⟨by decide, by decide⟩ rfl hby d22_48 rfl rfl (zM X hx hby d22_49 rfl (XS.iand X.here hx rfl (hb hby d22_52) rfl kt))))))) ?_
  obtain ⟨T, X, e0, st⟩ := getS2 X hx hZ hown (host := "") (Or.inl (oW hw 95 rfl)) Via.refl e0 (S_L.ext Oh) (g := (mkF m 53 #[rv xb, iv 1] [(.int (((xc0 >>> ((8 : Int32) &&& 31)).toInt8.toInt32) &&& (255 : Int32))), (.int ((((xc0 >>> ((0 : Int32) &&& 31)).toInt8.toInt32) &&& (255 : Int32)) <<< ((0 : Int32) &&& 31)))])) rfl (hb hby d22_53)
  refine oWk.to (mkF m 59 #[rv xb, iv 1] [(.int ((((((xc0 >>> ((0 : Int32) &&& 31)).toInt8.toInt32) &&& (255 : Int32)) <<< ((0 : Int32) &&& 31)) ||| ((((xc0 >>> ((8 : Int32) &&& 31)).toInt8.toInt32) &&& (255 : Int32)) <<< ((8 : Int32) &&& 31))).toUInt32.toUInt16.toUInt32.toInt32))]) (fun _ kt => st _ (XS.ishl X.here hx rfl (hb hby d22_56) rfl (XS.ior X.here hx rfl (hb hby d22_57) rfl (XS.i2c X.here hx rfl (hb hby d22_58) rfl kt)))) ?_
  show oWk _ _ _ _ T (mkF m 59 #[rv xb, iv 1] [(.int ((((((xc0 >>> ((0 : Int32) &&& 31)).toInt8.toInt32) &&& (255 : Int32)) <<< ((0 : Int32) &&& 31)) ||| ((((xc0 >>> ((8 : Int32) &&& 31)).toInt8.toInt32) &&& (255 : Int32)) <<< ((8 : Int32) &&& 31))).toUInt32.toUInt16.toUInt32.toInt32))])
  rw [oU16 hr]
  show oWk _ _ _ _ T (mkF m 59 #[rv xb, iv 1] [(.int xc0)])
  exact oRetN X hx hlk hret (Or.inr (Or.inl rfl)) (show narrow .char (.int xc0) = .int xc0 from congrArg Value.int (oChrU hr)) (hb hby d22_59) (by rw [e0]; exact ⟨rfl, rfl, K⟩) (by decide) (by decide)
theorem rUC_2_0 (l : Launch) (Z : State) (a0 : Array Value) (hw : oHW a0 Z) (ws : List Jvm.Cond) (xb : Addr) (xk : ClassId) (xfm : Value) (xc0 xc1 : Int32) (h0 : Heap) (O0 : Ext Z.heap h0) (S_A : Sta Z Z.heap Y1 Y3 "Z" (.int (1 : Int32))) (S_H : Sta Z Z.heap Y1 "HI_BYTE_SHIFT" "I" (.int (0 : Int32))) (S_L : Sta Z Z.heap Y1 "LO_BYTE_SHIFT" "I" (.int (8 : Int32))) (S_F : Sta Z Z.heap Y4 Y5 Y6 xfm) (hcat : xfm.category = 1) (hr : 0 ≤ xc0.toInt ∧ xc0.toInt < 65536) (V_xb : Arv Z h0 xb xk .byte (4 : Int32) [(iu0 xc0), (iu8 xc0), (iu0 xc1), (iu8 xc1)] (.int (0 : Int32))) :
    oCon l Z yy8 jdk_52_method_83_code 2 (some .char) ws ({ frames := 3, cells := 0, slots := 0, locals := 40 } : Room) #[(.ref xb), (.int (0 : Int32))] h0 (oPq (some (.int xc0)) h0) := by
  refine oCon.of (plainFor_of_name pn_2) ?_
  intro p e s m below meth c T X hx hby hml hown hnm hret hlk hZ e0
  have hml : c.maxLocals = 2 := hml
  have K : oKp h0 h0 [] [] := oKp.nil _ _
  refine oWk.cast (g' := (mkF m 0 #[rv xb, iv 0] [])) (by first | rfl | (simp [entryFrame, mkF, argsToLocals, Value.category]; done)) ?_
  refine oWk.st (fun _ kt => zI X hx hby d25_0 rfl rfl (zA X hx hby d25_1 rfl rfl rfl kt)) ?_
  have Oh := K.old O0 all0
  obtain ⟨T, L2, X, e0, K, st⟩ := (cs4 hw).pure X hx hZ hown e0 K (A := [(.int (0 : Int32)), (.ref xb)]) rfl (rUCk_2_0 l Z a0 hw [] xb xk xfm xc0 xc1 h0 Oh S_F hcat V_xb) (W := 0) (by decide) hml (Ls := #[rv xb, iv 0]) rfl (rest := []) rfl rfl hby d25_2
  refine oWk.st (fun _ kt => st _ (zA X hx hby d25_5 rfl rfl rfl (zI X hx hby d25_6 rfl rfl kt))) ?_
  obtain ⟨T, L4, X, e0, K, st⟩ := (cs5 hw).pure X hx hZ hown e0 K (A := [(.ref xb), (.int (0 : Int32))]) rfl (rGC_2_0 l Z a0 hw [] xb xk xc0 xc1 h0 Oh S_A S_H S_L hr V_xb) (W := 0) (by decide) hml (Ls := #[rv xb, iv 0]) rfl (rest := []) rfl rfl hby d25_7
  refine oWk.to (mkF m 10 #[rv xb, iv 0] [(.int xc0)]) (fun _ kt => st _ kt) ?_
  exact oRetN X hx hlk hret (Or.inr (Or.inl rfl)) (show narrow .char (.int xc0) = .int xc0 from congrArg Value.int (oChrU hr)) (hb hby d25_10) (by rw [e0]; exact ⟨rfl, rfl, K⟩) (by decide) (by decide)
theorem rCAU_2_0 (l : Launch) (Z : State) (a0 : Array Value) (hw : oHW a0 Z) (ws : List Jvm.Cond) (xa xb : Addr) (xk : ClassId) (xfm : Value) (xz xc0 xc1 : Int32) (h0 : Heap) (O0 : Ext Z.heap h0) (S_Z : Sta Z Z.heap Y0 Y2 "Z" (.int xz)) (hz : ¬ xz = (0 : Int32)) (S_A : Sta Z Z.heap Y1 Y3 "Z" (.int (1 : Int32))) (S_H : Sta Z Z.heap Y1 "HI_BYTE_SHIFT" "I" (.int (0 : Int32))) (S_L : Sta Z Z.heap Y1 "LO_BYTE_SHIFT" "I" (.int (8 : Int32))) (S_F : Sta Z Z.heap Y4 Y5 Y6 xfm) (hcat : xfm.category = 1) (hr : 0 ≤ xc0.toInt ∧ xc0.toInt < 65536) (E_xa : Exa Z h0 xa Y0) (F_coder_xa : Fld Z h0 xa Y0 "coder" "B" (.int (1 : Int32))) (F_value_xa : Fld Z h0 xa Y0 "value" "[B" (.ref xb)) (V_xb : Arv Z h0 xb xk .byte (4 : Int32) [(iu0 xc0), (iu8 xc0), (iu0 xc1), (iu8 xc1)] (.int (0 : Int32))) :
    oCon l Z yy9 jdk_42_method_56_code 2 (some .char) ws ({ frames := 4, cells := 0, slots := 0, locals := 53 } : Room) #[(.ref xa), (.int (0 : Int32))] h0 (oPq (some (.int xc0)) h0) := by
  refine oCon.of (plainFor_of_name pn_0) ?_
  intro p e s m below meth c T X hx hby hml hown hnm hret hlk hZ e0
  have hml : c.maxLocals = 2 := hml
  have K : oKp h0 h0 [] [] := oKp.nil _ _
  refine oWk.cast (g' := (mkF m 0 #[rv xa, iv 0] [])) (by first | rfl | (simp [entryFrame, mkF, argsToLocals, Value.category]; done)) ?_
  refine oWk.st (fun _ kt => zA X hx hby d23_0 rfl rfl rfl kt) ?_
  have Oh := K.old O0 all0
  obtain ⟨T, L2, X, e0, K, st⟩ := (cs6 hw).pure X hx hZ hown e0 K (A := [(.ref xa)]) ⟨rfl, _, _, rfl, E_xa⟩ (rIsL1 l Z a0 hw [] xa xz h0 Oh S_Z hz F_coder_xa) (W := 0) (by decide) hml (Ls := #[rv xa, iv 0]) rfl (rest := []) rfl rfl hby d23_1
  refine oWk.st (fun _ kt => st _ (zF X hx hby d23_4 rfl rfl ((if0 _ _).trans (teq (by decide)).1) (pc' := 16) rfl (zA X hx hby d23_16 rfl rfl rfl kt))) ?_
  obtain ⟨T, X, e0, st⟩ := getF X hx hZ hown (host := "") (Or.inl (oW hw 33 rfl)) Via.refl e0 F_value_xa (g := (mkF m 17 #[rv xa, iv 0] [(.ref xa)])) rfl rfl (hb hby d23_17)
  refine oWk.st (fun _ kt => st _ (zI X hx hby d23_20 rfl rfl kt)) ?_
  obtain ⟨T, L4, X, e0, K, st⟩ := (cs7 hw).pure X hx hZ hown e0 K (A := [(.ref xb), (.int (0 : Int32))]) rfl (rUC_2_0 l Z a0 hw [] xb xk xfm xc0 xc1 h0 Oh S_A S_H S_L S_F hcat hr V_xb) (W := 0) (by decide) hml (Ls := #[rv xa, iv 0]) rfl (rest := []) rfl rfl hby d23_21
  refine oWk.to (mkF m 24 #[rv xa, iv 0] [(.int xc0)]) (fun _ kt => st _ kt) ?_
  exact oRetN X hx hlk hret (Or.inr (Or.inl rfl)) (show narrow .char (.int xc0) = .int xc0 from congrArg Value.int (oChrU hr)) (hb hby d23_24) (by rw [e0]; exact ⟨rfl, rfl, K⟩) (by decide) (by decide)
theorem rLC_2_0 (l : Launch) (Z : State) (a0 : Array Value) (hw : oHW a0 Z) (ws : List Jvm.Cond) (xb : Addr) (xk : ClassId) (xfm : Value) (xc0 xc1 : Int32) (h0 : Heap) (O0 : Ext Z.heap h0) (S_F : Sta Z Z.heap Y4 Y5 Y6 xfm) (hcat : xfm.category = 1) (hr : 0 ≤ xc0.toInt ∧ xc0.toInt < 256) (V_xb : Arv Z h0 xb xk .byte (2 : Int32) [(ib xc0), (ib xc1)] (.int (0 : Int32))) :
    oCon l Z yy10 jdk_43_method_2_code 2 (some .char) ws ({ frames := 2, cells := 0, slots := 0, locals := 27 } : Room) #[(.ref xb), (.int (0 : Int32))] h0 (oPq (some (.int xc0)) h0) := by
  refine oCon.of (plainFor_of_name pn_3) ?_
  intro p e s m below meth c T X hx hby hml hown hnm hret hlk hZ e0
  have hml : c.maxLocals = 2 := hml
  have K : oKp h0 h0 [] [] := oKp.nil _ _
  refine oWk.cast (g' := (mkF m 0 #[rv xb, iv 0] [])) (by first | rfl | (simp [entryFrame, mkF, argsToLocals, Value.category]; done)) ?_
  refine oWk.st (fun _ kt => zI X hx hby d31_0 rfl rfl (zA X hx hby d31_1 rfl rfl rfl (oAl X hx hZ e0 V_xb hby d31_2 rfl rfl kt))) ?_
  have Oh := K.old O0 all0
  obtain ⟨T, L3, X, e0, K, st⟩ := (cs8 hw).pure X hx hZ hown e0 K (A := [(.int (0 : Int32)), (.int (2 : Int32))]) rfl (rCkI l Z a0 hw [] (0 : Int32) (2 : Int32) xfm h0 Oh S_F hcat (by decide) (by decide)) (W := 0) (by decide) hml (Ls := #[rv xb, iv 0]) rfl (rest := []) rfl rfl hby d31_3
  refine oWk.to (mkF m 14 #[rv xb, iv 0] [(.int (((xc0.toInt8.toInt32) &&& (255 : Int32)).toUInt32.toUInt16.toUInt32.toInt32))]) (fun _ kt => st _ (zA X hx hby d31_6 rfl rfl rfl (zI X hx hby d31_7 rfl rfl (oLdB X hx hZ e0 V_xb (0 : Int32) (ib xc0) ⟨by decide, by decide⟩ rfl hby d31_8 rfl rfl (zM X hx hby d31_9 rfl (XS.iand X.here hx rfl (hb hby d31_12) rfl (XS.i2c X.here hx rfl (hb hby d31_13) rfl kt))))))) ?_
  rw [oBk hr]
  show oWk _ _ _ _ T (mkF m 14 #[rv xb, iv 0] [(.int xc0)])
  exact oRetN X hx hlk hret (Or.inr (Or.inl rfl)) (show narrow .char (.int xc0) = .int xc0 from congrArg Value.int (oChr hr)) (hb hby d31_14) (by rw [e0]; exact ⟨rfl, rfl, K⟩) (by decide) (by decide)
theorem rCA_2_0 (l : Launch) (Z : State) (a0 : Array Value) (hw : oHW a0 Z) (ws : List Jvm.Cond) (xa xb : Addr) (xk : ClassId) (xfm : Value) (xz xc0 xc1 : Int32) (h0 : Heap) (O0 : Ext Z.heap h0) (S_Z : Sta Z Z.heap Y0 Y2 "Z" (.int xz)) (hz : ¬ xz = (0 : Int32)) (S_F : Sta Z Z.heap Y4 Y5 Y6 xfm) (hcat : xfm.category = 1) (hr : 0 ≤ xc0.toInt ∧ xc0.toInt < 256) (E_xa : Exa Z h0 xa Y0) (F_coder_xa : Fld Z h0 xa Y0 "coder" "B" (.int (0 : Int32))) (F_value_xa : Fld Z h0 xa Y0 "value" "[B" (.ref xb)) (V_xb : Arv Z h0 xb xk .byte (2 : Int32) [(ib xc0), (ib xc1)] (.int (0 : Int32))) :
    oCon l Z yy9 jdk_42_method_56_code 2 (some .char) ws ({ frames := 4, cells := 0, slots := 0, locals := 53 } : Room) #[(.ref xa), (.int (0 : Int32))] h0 (oPq (some (.int xc0)) h0) := by
  refine oCon.of (plainFor_of_name pn_0) ?_
  intro p e s m below meth c T X hx hby hml hown hnm hret hlk hZ e0
  have hml : c.maxLocals = 2 := hml
  have K : oKp h0 h0 [] [] := oKp.nil _ _
  refine oWk.cast (g' := (mkF m 0 #[rv xa, iv 0] [])) (by first | rfl | (simp [entryFrame, mkF, argsToLocals, Value.category]; done)) ?_
  refine oWk.st (fun _ kt => zA X hx hby d23_0 rfl rfl rfl kt) ?_
  have Oh := K.old O0 all0
  obtain ⟨T, L2, X, e0, K, st⟩ := (cs6 hw).pure X hx hZ hown e0 K (A := [(.ref xa)]) ⟨rfl, _, _, rfl, E_xa⟩ (rIsL l Z a0 hw [] xa xz h0 Oh S_Z hz F_coder_xa) (W := 0) (by decide) hml (Ls := #[rv xa, iv 0]) rfl (rest := []) rfl rfl hby d23_1
  refine oWk.st (fun _ kt => st _ (zH X hx hby d23_4 rfl rfl ((if0 _ _).trans (feq (by decide)).1) (zA X hx hby d23_7 rfl rfl rfl kt))) ?_
  obtain ⟨T, X, e0, st⟩ := getF X hx hZ hown (host := "") (Or.inl (oW hw 33 rfl)) Via.refl e0 F_value_xa (g := (mkF m 8 #[rv xa, iv 0] [(.ref xa)])) rfl rfl (hb hby d23_8)
  refine oWk.st (fun _ kt => st _ (zI X hx hby d23_11 rfl rfl kt)) ?_
  obtain ⟨T, L4, X, e0, K, st⟩ := (cs9 hw).pure X hx hZ hown e0 K (A := [(.ref xb), (.int (0 : Int32))]) rfl (rLC_2_0 l Z a0 hw [] xb xk xfm xc0 xc1 h0 Oh S_F hcat hr V_xb) (W := 0) (by decide) hml (Ls := #[rv xa, iv 0]) rfl (rest := []) rfl rfl hby d23_12
  refine oWk.to (mkF m 15 #[rv xa, iv 0] [(.int xc0)]) (fun _ kt => st _ kt) ?_
  exact oRetN X hx hlk hret (Or.inr (Or.inl rfl)) (show narrow .char (.int xc0) = .int xc0 from congrArg Value.int (oChr hr)) (hb hby d23_15) (by rw [e0]; exact ⟨rfl, rfl, K⟩) (by decide) (by decide)
theorem rCAT_2_0 (l : Launch) (Z : State) (a0 : Array Value) (hw : oHW a0 Z) (ws : List Jvm.Cond) (xa : Addr) (xfm : Value) (xz xc0 xc1 : Int32) (h0 : Heap) (O0 : Ext Z.heap h0) (S_Z : Sta Z Z.heap Y0 Y2 "Z" (.int xz)) (hz : ¬ xz = (0 : Int32)) (S_A : Sta Z Z.heap Y1 Y3 "Z" (.int (1 : Int32))) (S_H : Sta Z Z.heap Y1 "HI_BYTE_SHIFT" "I" (.int (0 : Int32))) (S_L : Sta Z Z.heap Y1 "LO_BYTE_SHIFT" "I" (.int (8 : Int32))) (S_F : Sta Z Z.heap Y4 Y5 Y6 xfm) (hcat : xfm.category = 1) (T_xa : oTx Z h0 xa [xc0, xc1]) :
    oCon l Z yy9 jdk_42_method_56_code 2 (some .char) ws ({ frames := 4, cells := 0, slots := 0, locals := 53 } : Room) #[(.ref xa), (.int (0 : Int32))] h0 (oPq (some (.int xc0)) h0) := by
  obtain ⟨b, k, E, V, ⟨C, A, R⟩ | ⟨C, A, R⟩⟩ := T_xa
  · exact rCA_2_0 l Z a0 hw ws xa b k xfm xz xc0 xc1 h0 O0 S_Z hz S_F hcat (R _ (List.mem_of_getElem? (i := 0) rfl)) E C V A
  · exact rCAU_2_0 l Z a0 hw ws xa b k xfm xz xc0 xc1 h0 O0 S_Z hz S_A S_H S_L S_F hcat (R _ (List.mem_of_getElem? (i := 0) rfl)) E C V A
theorem rUCk_2_1 (l : Launch) (Z : State) (a0 : Array Value) (hw : oHW a0 Z) (ws : List Jvm.Cond) (xb : Addr) (xk : ClassId) (xfm : Value) (xc0 xc1 : Int32) (h0 : Heap) (O0 : Ext Z.heap h0) (S_F : Sta Z Z.heap Y4 Y5 Y6 xfm) (hcat : xfm.category = 1) (V_xb : Arv Z h0 xb xk .byte (4 : Int32) [(iu0 xc0), (iu8 xc0), (iu0 xc1), (iu8 xc1)] (.int (0 : Int32))) :
    oCon l Z yy6 jdk_52_method_91_code 2 none ws ({ frames := 2, cells := 0, slots := 0, locals := 27 } : Room) #[(.int (1 : Int32)), (.ref xb)] h0 (oPq none h0) := by
  refine oCon.of (plainFor_of_name pn_2) ?_
  intro p e s m below meth c T X hx hby hml hown hnm hret hlk hZ e0
  have hml : c.maxLocals = 2 := hml
  have K : oKp h0 h0 [] [] := oKp.nil _ _
  refine oWk.cast (g' := (mkF m 0 #[iv 1, rv xb] [])) (by first | rfl | (simp [entryFrame, mkF, argsToLocals, Value.category]; done)) ?_
  refine oWk.st (fun _ kt => zI X hx hby d26_0 rfl rfl (zA X hx hby d26_1 rfl rfl rfl kt)) ?_
  have Oh := K.old O0 all0
  obtain ⟨T, L2, X, e0, K, st⟩ := (cs2 hw).pure X hx hZ hown e0 K (A := [(.ref xb)]) rfl (rUL_2 l Z a0 hw [] xb xk xc0 xc1 h0 Oh V_xb) (W := 1) (by decide) hml (Ls := #[iv 1, rv xb]) rfl (rest := [(.int (1 : Int32))]) rfl rfl hby d26_2
  refine oWk.st (fun _ kt => st _ kt) ?_
  obtain ⟨T, L4, X, e0, K, st⟩ := (cs3 hw).pure X hx hZ hown e0 K (A := [(.int (1 : Int32)), (.int (2 : Int32))]) rfl (rCkI l Z a0 hw [] (1 : Int32) (2 : Int32) xfm h0 Oh S_F hcat (by decide) (by decide)) (W := 0) (by decide) hml (Ls := #[iv 1, rv xb]) rfl (rest := []) rfl rfl hby d26_5
  refine oWk.to (mkF m 8 #[iv 1, rv xb] []) (fun _ kt => st _ kt) ?_
  exact oRetV X hx hlk hret (hb hby d26_8) (by rw [e0]; exact ⟨rfl, rfl, K⟩) (by decide) (by decide)
theorem rGC_2_1 (l : Launch) (Z : State) (a0 : Array Value) (hw : oHW a0 Z) (ws : List Jvm.Cond) (xb : Addr) (xk : ClassId) (xc0 xc1 : Int32) (h0 : Heap) (O0 : Ext Z.heap h0) (S_A : Sta Z Z.heap Y1 Y3 "Z" (.int (1 : Int32))) (S_H : Sta Z Z.heap Y1 "HI_BYTE_SHIFT" "I" (.int (0 : Int32))) (S_L : Sta Z Z.heap Y1 "LO_BYTE_SHIFT" "I" (.int (8 : Int32))) (hr : 0 ≤ xc1.toInt ∧ xc1.toInt < 65536) (V_xb : Arv Z h0 xb xk .byte (4 : Int32) [(iu0 xc0), (iu8 xc0), (iu0 xc1), (iu8 xc1)] (.int (0 : Int32))) :
    oCon l Z yy7 jdk_52_method_5_code 2 (some .char) ws ({ frames := 0, cells := 0, slots := 0, locals := 0 } : Room) #[(.ref xb), (.int (1 : Int32))] h0 (oPq (some (.int xc1)) h0) := by
  refine oCon.of (plainFor_of_name pn_2) ?_
  intro p e s m below meth c T X hx hby hml hown hnm hret hlk hZ e0
  have hml : c.maxLocals = 2 := hml
  have K : oKp h0 h0 [] [] := oKp.nil _ _
  refine oWk.cast (g' := (mkF m 0 #[rv xb, iv 1] [])) (by first | rfl | (simp [entryFrame, mkF, argsToLocals, Value.category]; done)) ?_
  have Oh := K.old O0 all0
  obtain ⟨T, X, e0, st⟩ := getS2 X hx hZ hown (host := "") (Or.inl (oW hw 93 rfl)) Via.refl e0 (S_A.ext Oh) (g := (mkF m 0 #[rv xb, iv 1] [])) rfl (hb hby d22_0)
  refine oWk.to (mkF m 33 #[rv xb, iv 2] [(.ref xb)]) (fun _ kt => st _ (zF X hx hby d22_3 rfl rfl ((if0 _ _).trans (feq (by decide)).2) (pc' := 28) rfl (zI X hx hby d22_28 rfl rfl (zK X hx hby d22_29 rfl (XS.ishl X.here hx rfl (hb hby d22_30) rfl (zSn X hx hby d22_31 rfl rfl (l' := #[rv xb, iv 2]) rfl (zA X hx hby d22_32 rfl rfl rfl kt))))))) ?_
  refine oWk.st (fun _ kt => zI X hx hby d22_33 rfl rfl (zC X hx hby d22_34 rfl rfl (l' := #[rv xb, iv ((2 : Int32) + (1 : Int32))]) rfl (oLdB X hx hZ e0 V_xb (2 : Int32) (iu0 xc1) ⟨by decide, by decide⟩ rfl hby d22_37 rfl rfl (zM X hx hby d22_38 rfl (XS.iand X.here hx rfl (hb hby d22_41) rfl kt))))) ?_
  obtain ⟨T, X, e0, st⟩ := getS2 X hx hZ hown (host := "") (Or.inl (oW hw 94 rfl)) Via.refl e0 (S_H.ext Oh) (g := (mkF m 42 #[rv xb, iv 3] [(.int (((xc1 >>> ((0 : Int32) &&& 31)).toInt8.toInt32) &&& (255 : Int32)))])) rfl (hb hby d22_42)
  refine oWk.to (mkF m 53 #[rv xb, iv 3] [(.int (((xc1 >>> ((8 : Int32) &&& 31)).toInt8.toInt32) &&& (255 : Int32))), (.int ((((xc1 >>> ((0 : Int32) &&& 31)).toInt8.toInt32) &&& (255 : Int32)) <<< ((0 : Int32) &&& 31)))]) (fun _ kt => st _ (XS.ishl X.here hx rfl (hb hby d22_45) rfl (zA X hx hby d22_46 rfl rfl rfl (zI X hx hby d22_47 rfl rfl (oLdB X hx hZ e0 V_xb (3 : Int32) (iu8 xc1) ⟨by decide, by decide⟩ rfl hby d22_48 rfl rfl (zM X hx hby d22_49 rfl (XS.iand X.here hx rfl (hb hby d22_52) rfl kt))))))) ?_
  obtain ⟨T, X, e0, st⟩ := getS2 X hx hZ hown (host := "") (Or.inl (oW hw 95 rfl)) Via.refl e0 (S_L.ext Oh) (g := (mkF m 53 #[rv xb, iv 3] [(.int (((xc1 >>> ((8 : Int32) &&& 31)).toInt8.toInt32) &&& (255 : Int32))), (.int ((((xc1 >>> ((0 : Int32) &&& 31)).toInt8.toInt32) &&& (255 : Int32)) <<< ((0 : Int32) &&& 31)))])) rfl (hb hby d22_53)
  refine oWk.to (mkF m 59 #[rv xb, iv 3] [(.int ((((((xc1 >>> ((0 : Int32) &&& 31)).toInt8.toInt32) &&& (255 : Int32)) <<< ((0 : Int32) &&& 31)) ||| ((((xc1 >>> ((8 : Int32) &&& 31)).toInt8.toInt32) &&& (255 : Int32)) <<< ((8 : Int32) &&& 31))).toUInt32.toUInt16.toUInt32.toInt32))]) (fun _ kt => st _ (XS.ishl X.here hx rfl (hb hby d22_56) rfl (XS.ior X.here hx rfl (hb hby d22_57) rfl (XS.i2c X.here hx rfl (hb hby d22_58) rfl kt)))) ?_
  show oWk _ _ _ _ T (mkF m 59 #[rv xb, iv 3] [(.int ((((((xc1 >>> ((0 : Int32) &&& 31)).toInt8.toInt32) &&& (255 : Int32)) <<< ((0 : Int32) &&& 31)) ||| ((((xc1 >>> ((8 : Int32) &&& 31)).toInt8.toInt32) &&& (255 : Int32)) <<< ((8 : Int32) &&& 31))).toUInt32.toUInt16.toUInt32.toInt32))])
  rw [oU16 hr]
  show oWk _ _ _ _ T (mkF m 59 #[rv xb, iv 3] [(.int xc1)])
  exact oRetN X hx hlk hret (Or.inr (Or.inl rfl)) (show narrow .char (.int xc1) = .int xc1 from congrArg Value.int (oChrU hr)) (hb hby d22_59) (by rw [e0]; exact ⟨rfl, rfl, K⟩) (by decide) (by decide)
theorem rUC_2_1 (l : Launch) (Z : State) (a0 : Array Value) (hw : oHW a0 Z) (ws : List Jvm.Cond) (xb : Addr) (xk : ClassId) (xfm : Value) (xc0 xc1 : Int32) (h0 : Heap) (O0 : Ext Z.heap h0) (S_A : Sta Z Z.heap Y1 Y3 "Z" (.int (1 : Int32))) (S_H : Sta Z Z.heap Y1 "HI_BYTE_SHIFT" "I" (.int (0 : Int32))) (S_L : Sta Z Z.heap Y1 "LO_BYTE_SHIFT" "I" (.int (8 : Int32))) (S_F : Sta Z Z.heap Y4 Y5 Y6 xfm) (hcat : xfm.category = 1) (hr : 0 ≤ xc1.toInt ∧ xc1.toInt < 65536) (V_xb : Arv Z h0 xb xk .byte (4 : Int32) [(iu0 xc0), (iu8 xc0), (iu0 xc1), (iu8 xc1)] (.int (0 : Int32))) :
    oCon l Z yy8 jdk_52_method_83_code 2 (some .char) ws ({ frames := 3, cells := 0, slots := 0, locals := 40 } : Room) #[(.ref xb), (.int (1 : Int32))] h0 (oPq (some (.int xc1)) h0) := by
  refine oCon.of (plainFor_of_name pn_2) ?_
  intro p e s m below meth c T X hx hby hml hown hnm hret hlk hZ e0
  have hml : c.maxLocals = 2 := hml
  have K : oKp h0 h0 [] [] := oKp.nil _ _
  refine oWk.cast (g' := (mkF m 0 #[rv xb, iv 1] [])) (by first | rfl | (simp [entryFrame, mkF, argsToLocals, Value.category]; done)) ?_
  refine oWk.st (fun _ kt => zI X hx hby d25_0 rfl rfl (zA X hx hby d25_1 rfl rfl rfl kt)) ?_
  have Oh := K.old O0 all0
  obtain ⟨T, L2, X, e0, K, st⟩ := (cs4 hw).pure X hx hZ hown e0 K (A := [(.int (1 : Int32)), (.ref xb)]) rfl (rUCk_2_1 l Z a0 hw [] xb xk xfm xc0 xc1 h0 Oh S_F hcat V_xb) (W := 0) (by decide) hml (Ls := #[rv xb, iv 1]) rfl (rest := []) rfl rfl hby d25_2
  refine oWk.st (fun _ kt => st _ (zA X hx hby d25_5 rfl rfl rfl (zI X hx hby d25_6 rfl rfl kt))) ?_
  obtain ⟨T, L4, X, e0, K, st⟩ := (cs5 hw).pure X hx hZ hown e0 K (A := [(.ref xb), (.int (1 : Int32))]) rfl (rGC_2_1 l Z a0 hw [] xb xk xc0 xc1 h0 Oh S_A S_H S_L hr V_xb) (W := 0) (by decide) hml (Ls := #[rv xb, iv 1]) rfl (rest := []) rfl rfl hby d25_7
  refine oWk.to (mkF m 10 #[rv xb, iv 1] [(.int xc1)]) (fun _ kt => st _ kt) ?_
  exact oRetN X hx hlk hret (Or.inr (Or.inl rfl)) (show narrow .char (.int xc1) = .int xc1 from congrArg Value.int (oChrU hr)) (hb hby d25_10) (by rw [e0]; exact ⟨rfl, rfl, K⟩) (by decide) (by decide)
theorem rCAU_2_1 (l : Launch) (Z : State) (a0 : Array Value) (hw : oHW a0 Z) (ws : List Jvm.Cond) (xa xb : Addr) (xk : ClassId) (xfm : Value) (xz xc0 xc1 : Int32) (h0 : Heap) (O0 : Ext Z.heap h0) (S_Z : Sta Z Z.heap Y0 Y2 "Z" (.int xz)) (hz : ¬ xz = (0 : Int32)) (S_A : Sta Z Z.heap Y1 Y3 "Z" (.int (1 : Int32))) (S_H : Sta Z Z.heap Y1 "HI_BYTE_SHIFT" "I" (.int (0 : Int32))) (S_L : Sta Z Z.heap Y1 "LO_BYTE_SHIFT" "I" (.int (8 : Int32))) (S_F : Sta Z Z.heap Y4 Y5 Y6 xfm) (hcat : xfm.category = 1) (hr : 0 ≤ xc1.toInt ∧ xc1.toInt < 65536) (E_xa : Exa Z h0 xa Y0) (F_coder_xa : Fld Z h0 xa Y0 "coder" "B" (.int (1 : Int32))) (F_value_xa : Fld Z h0 xa Y0 "value" "[B" (.ref xb)) (V_xb : Arv Z h0 xb xk .byte (4 : Int32) [(iu0 xc0), (iu8 xc0), (iu0 xc1), (iu8 xc1)] (.int (0 : Int32))) :
    oCon l Z yy9 jdk_42_method_56_code 2 (some .char) ws ({ frames := 4, cells := 0, slots := 0, locals := 53 } : Room) #[(.ref xa), (.int (1 : Int32))] h0 (oPq (some (.int xc1)) h0) := by
  refine oCon.of (plainFor_of_name pn_0) ?_
  intro p e s m below meth c T X hx hby hml hown hnm hret hlk hZ e0
  have hml : c.maxLocals = 2 := hml
  have K : oKp h0 h0 [] [] := oKp.nil _ _
  refine oWk.cast (g' := (mkF m 0 #[rv xa, iv 1] [])) (by first | rfl | (simp [entryFrame, mkF, argsToLocals, Value.category]; done)) ?_
  refine oWk.st (fun _ kt => zA X hx hby d23_0 rfl rfl rfl kt) ?_
  have Oh := K.old O0 all0
  obtain ⟨T, L2, X, e0, K, st⟩ := (cs6 hw).pure X hx hZ hown e0 K (A := [(.ref xa)]) ⟨rfl, _, _, rfl, E_xa⟩ (rIsL1 l Z a0 hw [] xa xz h0 Oh S_Z hz F_coder_xa) (W := 0) (by decide) hml (Ls := #[rv xa, iv 1]) rfl (rest := []) rfl rfl hby d23_1
  refine oWk.st (fun _ kt => st _ (zF X hx hby d23_4 rfl rfl ((if0 _ _).trans (teq (by decide)).1) (pc' := 16) rfl (zA X hx hby d23_16 rfl rfl rfl kt))) ?_
  obtain ⟨T, X, e0, st⟩ := getF X hx hZ hown (host := "") (Or.inl (oW hw 33 rfl)) Via.refl e0 F_value_xa (g := (mkF m 17 #[rv xa, iv 1] [(.ref xa)])) rfl rfl (hb hby d23_17)
  refine oWk.st (fun _ kt => st _ (zI X hx hby d23_20 rfl rfl kt)) ?_
  obtain ⟨T, L4, X, e0, K, st⟩ := (cs7 hw).pure X hx hZ hown e0 K (A := [(.ref xb), (.int (1 : Int32))]) rfl (rUC_2_1 l Z a0 hw [] xb xk xfm xc0 xc1 h0 Oh S_A S_H S_L S_F hcat hr V_xb) (W := 0) (by decide) hml (Ls := #[rv xa, iv 1]) rfl (rest := []) rfl rfl hby d23_21
  refine oWk.to (mkF m 24 #[rv xa, iv 1] [(.int xc1)]) (fun _ kt => st _ kt) ?_
  exact oRetN X hx hlk hret (Or.inr (Or.inl rfl)) (show narrow .char (.int xc1) = .int xc1 from congrArg Value.int (oChrU hr)) (hb hby d23_24) (by rw [e0]; exact ⟨rfl, rfl, K⟩) (by decide) (by decide)
theorem rLC_2_1 (l : Launch) (Z : State) (a0 : Array Value) (hw : oHW a0 Z) (ws : List Jvm.Cond) (xb : Addr) (xk : ClassId) (xfm : Value) (xc0 xc1 : Int32) (h0 : Heap) (O0 : Ext Z.heap h0) (S_F : Sta Z Z.heap Y4 Y5 Y6 xfm) (hcat : xfm.category = 1) (hr : 0 ≤ xc1.toInt ∧ xc1.toInt < 256) (V_xb : Arv Z h0 xb xk .byte (2 : Int32) [(ib xc0), (ib xc1)] (.int (0 : Int32))) :
    oCon l Z yy10 jdk_43_method_2_code 2 (some .char) ws ({ frames := 2, cells := 0, slots := 0, locals := 27 } : Room) #[(.ref xb), (.int (1 : Int32))] h0 (oPq (some (.int xc1)) h0) := by
  refine oCon.of (plainFor_of_name pn_3) ?_
  intro p e s m below meth c T X hx hby hml hown hnm hret hlk hZ e0
  have hml : c.maxLocals = 2 := hml
  have K : oKp h0 h0 [] [] := oKp.nil _ _
  refine oWk.cast (g' := (mkF m 0 #[rv xb, iv 1] [])) (by first | rfl | (simp [entryFrame, mkF, argsToLocals, Value.category]; done)) ?_
  refine oWk.st (fun _ kt => zI X hx hby d31_0 rfl rfl (zA X hx hby d31_1 rfl rfl rfl (oAl X hx hZ e0 V_xb hby d31_2 rfl rfl kt))) ?_
  have Oh := K.old O0 all0
  obtain ⟨T, L3, X, e0, K, st⟩ := (cs8 hw).pure X hx hZ hown e0 K (A := [(.int (1 : Int32)), (.int (2 : Int32))]) rfl (rCkI l Z a0 hw [] (1 : Int32) (2 : Int32) xfm h0 Oh S_F hcat (by decide) (by decide)) (W := 0) (by decide) hml (Ls := #[rv xb, iv 1]) rfl (rest := []) rfl rfl hby d31_3
  refine oWk.to (mkF m 14 #[rv xb, iv 1] [(.int (((xc1.toInt8.toInt32) &&& (255 : Int32)).toUInt32.toUInt16.toUInt32.toInt32))]) (fun _ kt => st _ (zA X hx hby d31_6 rfl rfl rfl (zI X hx hby d31_7 rfl rfl (oLdB X hx hZ e0 V_xb (1 : Int32) (ib xc1) ⟨by decide, by decide⟩ rfl hby d31_8 rfl rfl (zM X hx hby d31_9 rfl (XS.iand X.here hx rfl (hb hby d31_12) rfl (XS.i2c X.here hx rfl (hb hby d31_13) rfl kt))))))) ?_
  rw [oBk hr]
  show oWk _ _ _ _ T (mkF m 14 #[rv xb, iv 1] [(.int xc1)])
  exact oRetN X hx hlk hret (Or.inr (Or.inl rfl)) (show narrow .char (.int xc1) = .int xc1 from congrArg Value.int (oChr hr)) (hb hby d31_14) (by rw [e0]; exact ⟨rfl, rfl, K⟩) (by decide) (by decide)
theorem rCA_2_1 (l : Launch) (Z : State) (a0 : Array Value) (hw : oHW a0 Z) (ws : List Jvm.Cond) (xa xb : Addr) (xk : ClassId) (xfm : Value) (xz xc0 xc1 : Int32) (h0 : Heap) (O0 : Ext Z.heap h0) (S_Z : Sta Z Z.heap Y0 Y2 "Z" (.int xz)) (hz : ¬ xz = (0 : Int32)) (S_F : Sta Z Z.heap Y4 Y5 Y6 xfm) (hcat : xfm.category = 1) (hr : 0 ≤ xc1.toInt ∧ xc1.toInt < 256) (E_xa : Exa Z h0 xa Y0) (F_coder_xa : Fld Z h0 xa Y0 "coder" "B" (.int (0 : Int32))) (F_value_xa : Fld Z h0 xa Y0 "value" "[B" (.ref xb)) (V_xb : Arv Z h0 xb xk .byte (2 : Int32) [(ib xc0), (ib xc1)] (.int (0 : Int32))) :
    oCon l Z yy9 jdk_42_method_56_code 2 (some .char) ws ({ frames := 4, cells := 0, slots := 0, locals := 53 } : Room) #[(.ref xa), (.int (1 : Int32))] h0 (oPq (some (.int xc1)) h0) := by
  refine oCon.of (plainFor_of_name pn_0) ?_
  intro p e s m below meth c T X hx hby hml hown hnm hret hlk hZ e0
  have hml : c.maxLocals = 2 := hml
  have K : oKp h0 h0 [] [] := oKp.nil _ _
  refine oWk.cast (g' := (mkF m 0 #[rv xa, iv 1] [])) (by first | rfl | (simp [entryFrame, mkF, argsToLocals, Value.category]; done)) ?_
  refine oWk.st (fun _ kt => zA X hx hby d23_0 rfl rfl rfl kt) ?_
  have Oh := K.old O0 all0
  obtain ⟨T, L2, X, e0, K, st⟩ := (cs6 hw).pure X hx hZ hown e0 K (A := [(.ref xa)]) ⟨rfl, _, _, rfl, E_xa⟩ (rIsL l Z a0 hw [] xa xz h0 Oh S_Z hz F_coder_xa) (W := 0) (by decide) hml (Ls := #[rv xa, iv 1]) rfl (rest := []) rfl rfl hby d23_1
  refine oWk.st (fun _ kt => st _ (zH X hx hby d23_4 rfl rfl ((if0 _ _).trans (feq (by decide)).1) (zA X hx hby d23_7 rfl rfl rfl kt))) ?_
  obtain ⟨T, X, e0, st⟩ := getF X hx hZ hown (host := "") (Or.inl (oW hw 33 rfl)) Via.refl e0 F_value_xa (g := (mkF m 8 #[rv xa, iv 1] [(.ref xa)])) rfl rfl (hb hby d23_8)
  refine oWk.st (fun _ kt => st _ (zI X hx hby d23_11 rfl rfl kt)) ?_
  obtain ⟨T, L4, X, e0, K, st⟩ := (cs9 hw).pure X hx hZ hown e0 K (A := [(.ref xb), (.int (1 : Int32))]) rfl (rLC_2_1 l Z a0 hw [] xb xk xfm xc0 xc1 h0 Oh S_F hcat hr V_xb) (W := 0) (by decide) hml (Ls := #[rv xa, iv 1]) rfl (rest := []) rfl rfl hby d23_12
  refine oWk.to (mkF m 15 #[rv xa, iv 1] [(.int xc1)]) (fun _ kt => st _ kt) ?_
  exact oRetN X hx hlk hret (Or.inr (Or.inl rfl)) (show narrow .char (.int xc1) = .int xc1 from congrArg Value.int (oChr hr)) (hb hby d23_15) (by rw [e0]; exact ⟨rfl, rfl, K⟩) (by decide) (by decide)
theorem rCAT_2_1 (l : Launch) (Z : State) (a0 : Array Value) (hw : oHW a0 Z) (ws : List Jvm.Cond) (xa : Addr) (xfm : Value) (xz xc0 xc1 : Int32) (h0 : Heap) (O0 : Ext Z.heap h0) (S_Z : Sta Z Z.heap Y0 Y2 "Z" (.int xz)) (hz : ¬ xz = (0 : Int32)) (S_A : Sta Z Z.heap Y1 Y3 "Z" (.int (1 : Int32))) (S_H : Sta Z Z.heap Y1 "HI_BYTE_SHIFT" "I" (.int (0 : Int32))) (S_L : Sta Z Z.heap Y1 "LO_BYTE_SHIFT" "I" (.int (8 : Int32))) (S_F : Sta Z Z.heap Y4 Y5 Y6 xfm) (hcat : xfm.category = 1) (T_xa : oTx Z h0 xa [xc0, xc1]) :
    oCon l Z yy9 jdk_42_method_56_code 2 (some .char) ws ({ frames := 4, cells := 0, slots := 0, locals := 53 } : Room) #[(.ref xa), (.int (1 : Int32))] h0 (oPq (some (.int xc1)) h0) := by
  obtain ⟨b, k, E, V, ⟨C, A, R⟩ | ⟨C, A, R⟩⟩ := T_xa
  · exact rCA_2_1 l Z a0 hw ws xa b k xfm xz xc0 xc1 h0 O0 S_Z hz S_F hcat (R _ (List.mem_of_getElem? (i := 1) rfl)) E C V A
  · exact rCAU_2_1 l Z a0 hw ws xa b k xfm xz xc0 xc1 h0 O0 S_Z hz S_A S_H S_L S_F hcat (R _ (List.mem_of_getElem? (i := 1) rfl)) E C V A
theorem rLnU_3 (l : Launch) (Z : State) (a0 : Array Value) (hw : oHW a0 Z) (ws : List Jvm.Cond) (xa xb : Addr) (xk : ClassId) (xz xc0 xc1 xc2 : Int32) (h0 : Heap) (O0 : Ext Z.heap h0) (S_Z : Sta Z Z.heap Y0 Y2 "Z" (.int xz)) (hz : ¬ xz = (0 : Int32)) (E_xa : Exa Z h0 xa Y0) (F_coder_xa : Fld Z h0 xa Y0 "coder" "B" (.int (1 : Int32))) (F_value_xa : Fld Z h0 xa Y0 "value" "[B" (.ref xb)) (V_xb : Arv Z h0 xb xk .byte (6 : Int32) [(iu0 xc0), (iu8 xc0), (iu0 xc1), (iu8 xc1), (iu0 xc2), (iu8 xc2)] (.int (0 : Int32))) :
    oCon l Z yy2 jdk_42_method_54_code 1 (some .int) ws ({ frames := 1, cells := 0, slots := 0, locals := 13 } : Room) #[(.ref xa)] h0 (oPq (some (.int (3 : Int32))) h0) := by
  refine oCon.of (plainFor_of_name pn_0) ?_
  intro p e s m below meth c T X hx hby hml hown hnm hret hlk hZ e0
  have hml : c.maxLocals = 1 := hml
  have K : oKp h0 h0 [] [] := oKp.nil _ _
  refine oWk.cast (g' := (mkF m 0 #[rv xa] [])) (by first | rfl | (simp [entryFrame, mkF, argsToLocals, Value.category]; done)) ?_
  refine oWk.st (fun _ kt => zA X hx hby d8_0 rfl rfl rfl kt) ?_
  obtain ⟨T, X, e0, st⟩ := getF X hx hZ hown (host := "") (Or.inl (oW hw 33 rfl)) Via.refl e0 F_value_xa (g := (mkF m 1 #[rv xa] [(.ref xa)])) rfl rfl (hb hby d8_1)
  refine oWk.st (fun _ kt => st _ (oAl X hx hZ e0 V_xb hby d8_4 rfl rfl (zA X hx hby d8_5 rfl rfl rfl kt))) ?_
  have Oh := K.old O0 all0
  obtain ⟨T, L3, X, e0, K, st⟩ := (cs0 hw).pure X hx hZ hown e0 K (A := [(.ref xa)]) ⟨rfl, _, _, rfl, E_xa⟩ (rCdr1 l Z a0 hw [] xa xz h0 Oh S_Z hz F_coder_xa) (W := 1) (by decide) hml (Ls := #[rv xa]) rfl (rest := [(.int (6 : Int32))]) rfl rfl hby d8_6
  refine oWk.to (mkF m 10 #[rv xa] [(.int 3)]) (fun _ kt => st _ (XS.ishr X.here hx rfl (hb hby d8_9) rfl kt)) ?_
  exact oRetI X hx hlk hret (hb hby d8_10) (by rw [e0]; exact ⟨rfl, rfl, K⟩) (by decide) (by decide)
theorem rLn_3 (l : Launch) (Z : State) (a0 : Array Value) (hw : oHW a0 Z) (ws : List Jvm.Cond) (xa xb : Addr) (xk : ClassId) (xz xc0 xc1 xc2 : Int32) (h0 : Heap) (O0 : Ext Z.heap h0) (S_Z : Sta Z Z.heap Y0 Y2 "Z" (.int xz)) (hz : ¬ xz = (0 : Int32)) (E_xa : Exa Z h0 xa Y0) (F_coder_xa : Fld Z h0 xa Y0 "coder" "B" (.int (0 : Int32))) (F_value_xa : Fld Z h0 xa Y0 "value" "[B" (.ref xb)) (V_xb : Arv Z h0 xb xk .byte (3 : Int32) [(ib xc0), (ib xc1), (ib xc2)] (.int (0 : Int32))) :
    oCon l Z yy2 jdk_42_method_54_code 1 (some .int) ws ({ frames := 1, cells := 0, slots := 0, locals := 13 } : Room) #[(.ref xa)] h0 (oPq (some (.int (3 : Int32))) h0) := by
  refine oCon.of (plainFor_of_name pn_0) ?_
  intro p e s m below meth c T X hx hby hml hown hnm hret hlk hZ e0
  have hml : c.maxLocals = 1 := hml
  have K : oKp h0 h0 [] [] := oKp.nil _ _
  refine oWk.cast (g' := (mkF m 0 #[rv xa] [])) (by first | rfl | (simp [entryFrame, mkF, argsToLocals, Value.category]; done)) ?_
  refine oWk.st (fun _ kt => zA X hx hby d8_0 rfl rfl rfl kt) ?_
  obtain ⟨T, X, e0, st⟩ := getF X hx hZ hown (host := "") (Or.inl (oW hw 33 rfl)) Via.refl e0 F_value_xa (g := (mkF m 1 #[rv xa] [(.ref xa)])) rfl rfl (hb hby d8_1)
  refine oWk.st (fun _ kt => st _ (oAl X hx hZ e0 V_xb hby d8_4 rfl rfl (zA X hx hby d8_5 rfl rfl rfl kt))) ?_
  have Oh := K.old O0 all0
  obtain ⟨T, L3, X, e0, K, st⟩ := (cs0 hw).pure X hx hZ hown e0 K (A := [(.ref xa)]) ⟨rfl, _, _, rfl, E_xa⟩ (rCdr l Z a0 hw [] xa xz h0 Oh S_Z hz F_coder_xa) (W := 1) (by decide) hml (Ls := #[rv xa]) rfl (rest := [(.int (3 : Int32))]) rfl rfl hby d8_6
  refine oWk.to (mkF m 10 #[rv xa] [(.int 3)]) (fun _ kt => st _ (XS.ishr X.here hx rfl (hb hby d8_9) rfl kt)) ?_
  exact oRetI X hx hlk hret (hb hby d8_10) (by rw [e0]; exact ⟨rfl, rfl, K⟩) (by decide) (by decide)
theorem rLnT_3 (l : Launch) (Z : State) (a0 : Array Value) (hw : oHW a0 Z) (ws : List Jvm.Cond) (xa : Addr) (xz xc0 xc1 xc2 : Int32) (h0 : Heap) (O0 : Ext Z.heap h0) (S_Z : Sta Z Z.heap Y0 Y2 "Z" (.int xz)) (hz : ¬ xz = (0 : Int32)) (T_xa : oTx Z h0 xa [xc0, xc1, xc2]) :
    oCon l Z yy2 jdk_42_method_54_code 1 (some .int) ws ({ frames := 1, cells := 0, slots := 0, locals := 13 } : Room) #[(.ref xa)] h0 (oPq (some (.int (3 : Int32))) h0) := by
  obtain ⟨b, k, E, V, ⟨C, A, R⟩ | ⟨C, A, R⟩⟩ := T_xa
  · exact rLn_3 l Z a0 hw ws xa b k xz xc0 xc1 xc2 h0 O0 S_Z hz E C V A
  · exact rLnU_3 l Z a0 hw ws xa b k xz xc0 xc1 xc2 h0 O0 S_Z hz E C V A
theorem rUL_3 (l : Launch) (Z : State) (a0 : Array Value) (hw : oHW a0 Z) (ws : List Jvm.Cond) (xb : Addr) (xk : ClassId) (xc0 xc1 xc2 : Int32) (h0 : Heap) (O0 : Ext Z.heap h0) (V_xb : Arv Z h0 xb xk .byte (6 : Int32) [(iu0 xc0), (iu8 xc0), (iu0 xc1), (iu8 xc1), (iu0 xc2), (iu8 xc2)] (.int (0 : Int32))) :
    oCon l Z yy5 jdk_52_method_6_code 1 (some .int) ws ({ frames := 0, cells := 0, slots := 0, locals := 0 } : Room) #[(.ref xb)] h0 (oPq (some (.int (3 : Int32))) h0) := by
  refine oCon.of (plainFor_of_name pn_2) ?_
  intro p e s m below meth c T X hx hby hml hown hnm hret hlk hZ e0
  have hml : c.maxLocals = 1 := hml
  have K : oKp h0 h0 [] [] := oKp.nil _ _
  refine oWk.cast (g' := (mkF m 0 #[rv xb] [])) (by first | rfl | (simp [entryFrame, mkF, argsToLocals, Value.category]; done)) ?_
  refine oWk.to (mkF m 4 #[rv xb] [(.int 3)]) (fun _ kt => zA X hx hby d27_0 rfl rfl rfl (oAl X hx hZ e0 V_xb hby d27_1 rfl rfl (zK X hx hby d27_2 rfl (XS.ishr X.here hx rfl (hb hby d27_3) rfl kt)))) ?_
  exact oRetI X hx hlk hret (hb hby d27_4) (by rw [e0]; exact ⟨rfl, rfl, K⟩) (by decide) (by decide)
theorem rUCk_3_0 (l : Launch) (Z : State) (a0 : Array Value) (hw : oHW a0 Z) (ws : List Jvm.Cond) (xb : Addr) (xk : ClassId) (xfm : Value) (xc0 xc1 xc2 : Int32) (h0 : Heap) (O0 : Ext Z.heap h0) (S_F : Sta Z Z.heap Y4 Y5 Y6 xfm) (hcat : xfm.category = 1) (V_xb : Arv Z h0 xb xk .byte (6 : Int32) [(iu0 xc0), (iu8 xc0), (iu0 xc1), (iu8 xc1), (iu0 xc2), (iu8 xc2)] (.int (0 : Int32))) :
    oCon l Z yy6 jdk_52_method_91_code 2 none ws ({ frames := 2, cells := 0, slots := 0, locals := 27 } : Room) #[(.int (0 : Int32)), (.ref xb)] h0 (oPq none h0) := by
  refine oCon.of (plainFor_of_name pn_2) ?_
  intro p e s m below meth c T X hx hby hml hown hnm hret hlk hZ e0
  have hml : c.maxLocals = 2 := hml
  have K : oKp h0 h0 [] [] := oKp.nil _ _
  refine oWk.cast (g' := (mkF m 0 #[iv 0, rv xb] [])) (by first | rfl | (simp [entryFrame, mkF, argsToLocals, Value.category]; done)) ?_
  refine oWk.st (fun _ kt => zI X hx hby d26_0 rfl rfl (zA X hx hby d26_1 rfl rfl rfl kt)) ?_
  have Oh := K.old O0 all0
  obtain ⟨T, L2, X, e0, K, st⟩ := (cs2 hw).pure X hx hZ hown e0 K (A := [(.ref xb)]) rfl (rUL_3 l Z a0 hw [] xb xk xc0 xc1 xc2 h0 Oh V_xb) (W := 1) (by decide) hml (Ls := #[iv 0, rv xb]) rfl (rest := [(.int (0 : Int32))]) rfl rfl hby d26_2
  refine oWk.st (fun _ kt => st _ kt) ?_
  obtain ⟨T, L4, X, e0, K, st⟩ := (cs3 hw).pure X hx hZ hown e0 K (A := [(.int (0 : Int32)), (.int (3 : Int32))]) rfl (rCkI l Z a0 hw [] (0 : Int32) (3 : Int32) xfm h0 Oh S_F hcat (by decide) (by decide)) (W := 0) (by decide) hml (Ls := #[iv 0, rv xb]) rfl (rest := []) rfl rfl hby d26_5
  refine oWk.to (mkF m 8 #[iv 0, rv xb] []) (fun _ kt => st _ kt) ?_
  exact oRetV X hx hlk hret (hb hby d26_8) (by rw [e0]; exact ⟨rfl, rfl, K⟩) (by decide) (by decide)
theorem rGC_3_0 (l : Launch) (Z : State) (a0 : Array Value) (hw : oHW a0 Z) (ws : List Jvm.Cond) (xb : Addr) (xk : ClassId) (xc0 xc1 xc2 : Int32) (h0 : Heap) (O0 : Ext Z.heap h0) (S_A : Sta Z Z.heap Y1 Y3 "Z" (.int (1 : Int32))) (S_H : Sta Z Z.heap Y1 "HI_BYTE_SHIFT" "I" (.int (0 : Int32))) (S_L : Sta Z Z.heap Y1 "LO_BYTE_SHIFT" "I" (.int (8 : Int32))) (hr : 0 ≤ xc0.toInt ∧ xc0.toInt < 65536) (V_xb : Arv Z h0 xb xk .byte (6 : Int32) [(iu0 xc0), (iu8 xc0), (iu0 xc1), (iu8 xc1), (iu0 xc2), (iu8 xc2)] (.int (0 : Int32))) :
    oCon l Z yy7 jdk_52_method_5_code 2 (some .char) ws ({ frames := 0, cells := 0, slots := 0, locals := 0 } : Room) #[(.ref xb), (.int (0 : Int32))] h0 (oPq (some (.int xc0)) h0) := by
  refine oCon.of (plainFor_of_name pn_2) ?_
  intro p e s m below meth c T X hx hby hml hown hnm hret hlk hZ e0
  have hml : c.maxLocals = 2 := hml
  have K : oKp h0 h0 [] [] := oKp.nil _ _
  refine oWk.cast (g' := (mkF m 0 #[rv xb, iv 0] [])) (by first | rfl | (simp [entryFrame, mkF, argsToLocals, Value.category]; done)) ?_
  have Oh := K.old O0 all0
  obtain ⟨T, X, e0, st⟩ := getS2 X hx hZ hown (host := "") (Or.inl (oW hw 93 rfl)) Via.refl e0 (S_A.ext Oh) (g := (mkF m 0 #[rv xb, iv 0] [])) rfl (hb hby d22_0)
  refine oWk.to (mkF m 33 #[rv xb, iv 0] [(.ref xb)]) (fun _ kt => st _ (zF X hx hby d22_3 rfl rfl ((if0 _ _).trans (feq (by decide)).2) (pc' := 28) rfl (zI X hx hby d22_28 rfl rfl (zK X hx hby d22_29 rfl (XS.ishl X.here hx rfl (hb hby d22_30) rfl (zSn X hx hby d22_31 rfl rfl (l' := #[rv xb, iv 0]) rfl (zA X hx hby d22_32 rfl rfl rfl kt))))))) ?_
  refine oWk.st (fun _ kt => zI X hx hby d22_33 rfl rfl (zC X hx hby d22_34 rfl rfl (l' := #[rv xb, iv ((0 : Int32) + (1 : Int32))]) rfl (oLdB X hx hZ e0 V_xb (0 : Int32) (iu0 xc0) ⟨by decide, by decide⟩ rfl hby d22_37 rfl rfl (zM X hx hby d22_38 rfl (XS.iand X.here hx rfl (hb hby d22_41) rfl kt))))) ?_
  obtain ⟨T, X, e0, st⟩ := getS2 X hx hZ hown (host := "") (Or.inl (oW hw 94 rfl)) Via.refl e0 (S_H.ext Oh) (g := (mkF m 42 #[rv xb, iv 1] [(.int (((xc0 >>> ((0 : Int32) &&& 31)).toInt8.toInt32) &&& (255 : Int32)))])) rfl (hb hby d22_42)
  refine oWk.to (mkF m 53 #[rv xb, iv 1] [(.int (((xc0 >>> ((8 : Int32) &&& 31)).toInt8.toInt32) &&& (255 : Int32))), (.int ((((xc0 >>> ((0 : Int32) &&& 31)).toInt8.toInt32) &&& (255 : Int32)) <<< ((0 : Int32) &&& 31)))]) (fun _ kt => st _ (XS.ishl X.here hx rfl (hb hby d22_45) rfl (zA X hx hby d22_46 rfl rfl rfl (zI X hx hby d22_47 rfl rfl (oLdB X hx hZ e0 V_xb (1 : Int32) (iu8 xc0) ⟨by decide, by decide⟩ rfl hby d22_48 rfl rfl (zM X hx hby d22_49 rfl (XS.iand X.here hx rfl (hb hby d22_52) rfl kt))))))) ?_
  obtain ⟨T, X, e0, st⟩ := getS2 X hx hZ hown (host := "") (Or.inl (oW hw 95 rfl)) Via.refl e0 (S_L.ext Oh) (g := (mkF m 53 #[rv xb, iv 1] [(.int (((xc0 >>> ((8 : Int32) &&& 31)).toInt8.toInt32) &&& (255 : Int32))), (.int ((((xc0 >>> ((0 : Int32) &&& 31)).toInt8.toInt32) &&& (255 : Int32)) <<< ((0 : Int32) &&& 31)))])) rfl (hb hby d22_53)
  refine oWk.to (mkF m 59 #[rv xb, iv 1] [(.int ((((((xc0 >>> ((0 : Int32) &&& 31)).toInt8.toInt32) &&& (255 : Int32)) <<< ((0 : Int32) &&& 31)) ||| ((((xc0 >>> ((8 : Int32) &&& 31)).toInt8.toInt32) &&& (255 : Int32)) <<< ((8 : Int32) &&& 31))).toUInt32.toUInt16.toUInt32.toInt32))]) (fun _ kt => st _ (XS.ishl X.here hx rfl (hb hby d22_56) rfl (XS.ior X.here hx rfl (hb hby d22_57) rfl (XS.i2c X.here hx rfl (hb hby d22_58) rfl kt)))) ?_
  show oWk _ _ _ _ T (mkF m 59 #[rv xb, iv 1] [(.int ((((((xc0 >>> ((0 : Int32) &&& 31)).toInt8.toInt32) &&& (255 : Int32)) <<< ((0 : Int32) &&& 31)) ||| ((((xc0 >>> ((8 : Int32) &&& 31)).toInt8.toInt32) &&& (255 : Int32)) <<< ((8 : Int32) &&& 31))).toUInt32.toUInt16.toUInt32.toInt32))])
  rw [oU16 hr]
  show oWk _ _ _ _ T (mkF m 59 #[rv xb, iv 1] [(.int xc0)])
  exact oRetN X hx hlk hret (Or.inr (Or.inl rfl)) (show narrow .char (.int xc0) = .int xc0 from congrArg Value.int (oChrU hr)) (hb hby d22_59) (by rw [e0]; exact ⟨rfl, rfl, K⟩) (by decide) (by decide)
theorem rUC_3_0 (l : Launch) (Z : State) (a0 : Array Value) (hw : oHW a0 Z) (ws : List Jvm.Cond) (xb : Addr) (xk : ClassId) (xfm : Value) (xc0 xc1 xc2 : Int32) (h0 : Heap) (O0 : Ext Z.heap h0) (S_A : Sta Z Z.heap Y1 Y3 "Z" (.int (1 : Int32))) (S_H : Sta Z Z.heap Y1 "HI_BYTE_SHIFT" "I" (.int (0 : Int32))) (S_L : Sta Z Z.heap Y1 "LO_BYTE_SHIFT" "I" (.int (8 : Int32))) (S_F : Sta Z Z.heap Y4 Y5 Y6 xfm) (hcat : xfm.category = 1) (hr : 0 ≤ xc0.toInt ∧ xc0.toInt < 65536) (V_xb : Arv Z h0 xb xk .byte (6 : Int32) [(iu0 xc0), (iu8 xc0), (iu0 xc1), (iu8 xc1), (iu0 xc2), (iu8 xc2)] (.int (0 : Int32))) :
    oCon l Z yy8 jdk_52_method_83_code 2 (some .char) ws ({ frames := 3, cells := 0, slots := 0, locals := 40 } : Room) #[(.ref xb), (.int (0 : Int32))] h0 (oPq (some (.int xc0)) h0) := by
  refine oCon.of (plainFor_of_name pn_2) ?_
  intro p e s m below meth c T X hx hby hml hown hnm hret hlk hZ e0
  have hml : c.maxLocals = 2 := hml
  have K : oKp h0 h0 [] [] := oKp.nil _ _
  refine oWk.cast (g' := (mkF m 0 #[rv xb, iv 0] [])) (by first | rfl | (simp [entryFrame, mkF, argsToLocals, Value.category]; done)) ?_
  refine oWk.st (fun _ kt => zI X hx hby d25_0 rfl rfl (zA X hx hby d25_1 rfl rfl rfl kt)) ?_
  have Oh := K.old O0 all0
  obtain ⟨T, L2, X, e0, K, st⟩ := (cs4 hw).pure X hx hZ hown e0 K (A := [(.int (0 : Int32)), (.ref xb)]) rfl (rUCk_3_0 l Z a0 hw [] xb xk xfm xc0 xc1 xc2 h0 Oh S_F hcat V_xb) (W := 0) (by decide) hml (Ls := #[rv xb, iv 0]) rfl (rest := []) rfl rfl hby d25_2
  refine oWk.st (fun _ kt => st _ (zA X hx hby d25_5 rfl rfl rfl (zI X hx hby d25_6 rfl rfl kt))) ?_
  obtain ⟨T, L4, X, e0, K, st⟩ := (cs5 hw).pure X hx hZ hown e0 K (A := [(.ref xb), (.int (0 : Int32))]) rfl (rGC_3_0 l Z a0 hw [] xb xk xc0 xc1 xc2 h0 Oh S_A S_H S_L hr V_xb) (W := 0) (by decide) hml (Ls := #[rv xb, iv 0]) rfl (rest := []) rfl rfl hby d25_7
  refine oWk.to (mkF m 10 #[rv xb, iv 0] [(.int xc0)]) (fun _ kt => st _ kt) ?_
  exact oRetN X hx hlk hret (Or.inr (Or.inl rfl)) (show narrow .char (.int xc0) = .int xc0 from congrArg Value.int (oChrU hr)) (hb hby d25_10) (by rw [e0]; exact ⟨rfl, rfl, K⟩) (by decide) (by decide)
theorem rCAU_3_0 (l : Launch) (Z : State) (a0 : Array Value) (hw : oHW a0 Z) (ws : List Jvm.Cond) (xa xb : Addr) (xk : ClassId) (xfm : Value) (xz xc0 xc1 xc2 : Int32) (h0 : Heap) (O0 : Ext Z.heap h0) (S_Z : Sta Z Z.heap Y0 Y2 "Z" (.int xz)) (hz : ¬ xz = (0 : Int32)) (S_A : Sta Z Z.heap Y1 Y3 "Z" (.int (1 : Int32))) (S_H : Sta Z Z.heap Y1 "HI_BYTE_SHIFT" "I" (.int (0 : Int32))) (S_L : Sta Z Z.heap Y1 "LO_BYTE_SHIFT" "I" (.int (8 : Int32))) (S_F : Sta Z Z.heap Y4 Y5 Y6 xfm) (hcat : xfm.category = 1) (hr : 0 ≤ xc0.toInt ∧ xc0.toInt < 65536) (E_xa : Exa Z h0 xa Y0) (F_coder_xa : Fld Z h0 xa Y0 "coder" "B" (.int (1 : Int32))) (F_value_xa : Fld Z h0 xa Y0 "value" "[B" (.ref xb)) (V_xb : Arv Z h0 xb xk .byte (6 : Int32) [(iu0 xc0), (iu8 xc0), (iu0 xc1), (iu8 xc1), (iu0 xc2), (iu8 xc2)] (.int (0 : Int32))) :
    oCon l Z yy9 jdk_42_method_56_code 2 (some .char) ws ({ frames := 4, cells := 0, slots := 0, locals := 53 } : Room) #[(.ref xa), (.int (0 : Int32))] h0 (oPq (some (.int xc0)) h0) := by
  refine oCon.of (plainFor_of_name pn_0) ?_
  intro p e s m below meth c T X hx hby hml hown hnm hret hlk hZ e0
  have hml : c.maxLocals = 2 := hml
  have K : oKp h0 h0 [] [] := oKp.nil _ _
  refine oWk.cast (g' := (mkF m 0 #[rv xa, iv 0] [])) (by first | rfl | (simp [entryFrame, mkF, argsToLocals, Value.category]; done)) ?_
  refine oWk.st (fun _ kt => zA X hx hby d23_0 rfl rfl rfl kt) ?_
  have Oh := K.old O0 all0
  obtain ⟨T, L2, X, e0, K, st⟩ := (cs6 hw).pure X hx hZ hown e0 K (A := [(.ref xa)]) ⟨rfl, _, _, rfl, E_xa⟩ (rIsL1 l Z a0 hw [] xa xz h0 Oh S_Z hz F_coder_xa) (W := 0) (by decide) hml (Ls := #[rv xa, iv 0]) rfl (rest := []) rfl rfl hby d23_1
  refine oWk.st (fun _ kt => st _ (zF X hx hby d23_4 rfl rfl ((if0 _ _).trans (teq (by decide)).1) (pc' := 16) rfl (zA X hx hby d23_16 rfl rfl rfl kt))) ?_
  obtain ⟨T, X, e0, st⟩ := getF X hx hZ hown (host := "") (Or.inl (oW hw 33 rfl)) Via.refl e0 F_value_xa (g := (mkF m 17 #[rv xa, iv 0] [(.ref xa)])) rfl rfl (hb hby d23_17)
  refine oWk.st (fun _ kt => st _ (zI X hx hby d23_20 rfl rfl kt)) ?_
  obtain ⟨T, L4, X, e0, K, st⟩ := (cs7 hw).pure X hx hZ hown e0 K (A := [(.ref xb), (.int (0 : Int32))]) rfl (rUC_3_0 l Z a0 hw [] xb xk xfm xc0 xc1 xc2 h0 Oh S_A S_H S_L S_F hcat hr V_xb) (W := 0) (by decide) hml (Ls := #[rv xa, iv 0]) rfl (rest := []) rfl rfl hby d23_21
  refine oWk.to (mkF m 24 #[rv xa, iv 0] [(.int xc0)]) (fun _ kt => st _ kt) ?_
  exact oRetN X hx hlk hret (Or.inr (Or.inl rfl)) (show narrow .char (.int xc0) = .int xc0 from congrArg Value.int (oChrU hr)) (hb hby d23_24) (by rw [e0]; exact ⟨rfl, rfl, K⟩) (by decide) (by decide)
theorem rLC_3_0 (l : Launch) (Z : State) (a0 : Array Value) (hw : oHW a0 Z) (ws : List Jvm.Cond) (xb : Addr) (xk : ClassId) (xfm : Value) (xc0 xc1 xc2 : Int32) (h0 : Heap) (O0 : Ext Z.heap h0) (S_F : Sta Z Z.heap Y4 Y5 Y6 xfm) (hcat : xfm.category = 1) (hr : 0 ≤ xc0.toInt ∧ xc0.toInt < 256) (V_xb : Arv Z h0 xb xk .byte (3 : Int32) [(ib xc0), (ib xc1), (ib xc2)] (.int (0 : Int32))) :
    oCon l Z yy10 jdk_43_method_2_code 2 (some .char) ws ({ frames := 2, cells := 0, slots := 0, locals := 27 } : Room) #[(.ref xb), (.int (0 : Int32))] h0 (oPq (some (.int xc0)) h0) := by
  refine oCon.of (plainFor_of_name pn_3) ?_
  intro p e s m below meth c T X hx hby hml hown hnm hret hlk hZ e0
  have hml : c.maxLocals = 2 := hml
  have K : oKp h0 h0 [] [] := oKp.nil _ _
  refine oWk.cast (g' := (mkF m 0 #[rv xb, iv 0] [])) (by first | rfl | (simp [entryFrame, mkF, argsToLocals, Value.category]; done)) ?_
  refine oWk.st (fun _ kt => zI X hx hby d31_0 rfl rfl (zA X hx hby d31_1 rfl rfl rfl (oAl X hx hZ e0 V_xb hby d31_2 rfl rfl kt))) ?_
  have Oh := K.old O0 all0
  obtain ⟨T, L3, X, e0, K, st⟩ := (cs8 hw).pure X hx hZ hown e0 K (A := [(.int (0 : Int32)), (.int (3 : Int32))]) rfl (rCkI l Z a0 hw [] (0 : Int32) (3 : Int32) xfm h0 Oh S_F hcat (by decide) (by decide)) (W := 0) (by decide) hml (Ls := #[rv xb, iv 0]) rfl (rest := []) rfl rfl hby d31_3
  refine oWk.to (mkF m 14 #[rv xb, iv 0] [(.int (((xc0.toInt8.toInt32) &&& (255 : Int32)).toUInt32.toUInt16.toUInt32.toInt32))]) (fun _ kt => st _ (zA X hx hby d31_6 rfl rfl rfl (zI X hx hby d31_7 rfl rfl (oLdB X hx hZ e0 V_xb (0 : Int32) (ib xc0) ⟨by decide, by decide⟩ rfl hby d31_8 rfl rfl (zM X hx hby d31_9 rfl (XS.iand X.here hx rfl (hb hby d31_12) rfl (XS.i2c X.here hx rfl (hb hby d31_13) rfl kt))))))) ?_
  rw [oBk hr]
  show oWk _ _ _ _ T (mkF m 14 #[rv xb, iv 0] [(.int xc0)])
  exact oRetN X hx hlk hret (Or.inr (Or.inl rfl)) (show narrow .char (.int xc0) = .int xc0 from congrArg Value.int (oChr hr)) (hb hby d31_14) (by rw [e0]; exact ⟨rfl, rfl, K⟩) (by decide) (by decide)
theorem rCA_3_0 (l : Launch) (Z : State) (a0 : Array Value) (hw : oHW a0 Z) (ws : List Jvm.Cond) (xa xb : Addr) (xk : ClassId) (xfm : Value) (xz xc0 xc1 xc2 : Int32) (h0 : Heap) (O0 : Ext Z.heap h0) (S_Z : Sta Z Z.heap Y0 Y2 "Z" (.int xz)) (hz : ¬ xz = (0 : Int32)) (S_F : Sta Z Z.heap Y4 Y5 Y6 xfm) (hcat : xfm.category = 1) (hr : 0 ≤ xc0.toInt ∧ xc0.toInt < 256) (E_xa : Exa Z h0 xa Y0) (F_coder_xa : Fld Z h0 xa Y0 "coder" "B" (.int (0 : Int32))) (F_value_xa : Fld Z h0 xa Y0 "value" "[B" (.ref xb)) (V_xb : Arv Z h0 xb xk .byte (3 : Int32) [(ib xc0), (ib xc1), (ib xc2)] (.int (0 : Int32))) :
    oCon l Z yy9 jdk_42_method_56_code 2 (some .char) ws ({ frames := 4, cells := 0, slots := 0, locals := 53 } : Room) #[(.ref xa), (.int (0 : Int32))] h0 (oPq (some (.int xc0)) h0) := by
  refine oCon.of (plainFor_of_name pn_0) ?_
  intro p e s m below meth c T X hx hby hml hown hnm hret hlk hZ e0
  have hml : c.maxLocals = 2 := hml
  have K : oKp h0 h0 [] [] := oKp.nil _ _
  refine oWk.cast (g' := (mkF m 0 #[rv xa, iv 0] [])) (by first | rfl | (simp [entryFrame, mkF, argsToLocals, Value.category]; done)) ?_
  refine oWk.st (fun _ kt => zA X hx hby d23_0 rfl rfl rfl kt) ?_
  have Oh := K.old O0 all0
  obtain ⟨T, L2, X, e0, K, st⟩ := (cs6 hw).pure X hx hZ hown e0 K (A := [(.ref xa)]) ⟨rfl, _, _, rfl, E_xa⟩ (rIsL l Z a0 hw [] xa xz h0 Oh S_Z hz F_coder_xa) (W := 0) (by decide) hml (Ls := #[rv xa, iv 0]) rfl (rest := []) rfl rfl hby d23_1
  refine oWk.st (fun _ kt => st _ (zH X hx hby d23_4 rfl rfl ((if0 _ _).trans (feq (by decide)).1) (zA X hx hby d23_7 rfl rfl rfl kt))) ?_
  obtain ⟨T, X, e0, st⟩ := getF X hx hZ hown (host := "") (Or.inl (oW hw 33 rfl)) Via.refl e0 F_value_xa (g := (mkF m 8 #[rv xa, iv 0] [(.ref xa)])) rfl rfl (hb hby d23_8)
  refine oWk.st (fun _ kt => st _ (zI X hx hby d23_11 rfl rfl kt)) ?_
  obtain ⟨T, L4, X, e0, K, st⟩ := (cs9 hw).pure X hx hZ hown e0 K (A := [(.ref xb), (.int (0 : Int32))]) rfl (rLC_3_0 l Z a0 hw [] xb xk xfm xc0 xc1 xc2 h0 Oh S_F hcat hr V_xb) (W := 0) (by decide) hml (Ls := #[rv xa, iv 0]) rfl (rest := []) rfl rfl hby d23_12
  refine oWk.to (mkF m 15 #[rv xa, iv 0] [(.int xc0)]) (fun _ kt => st _ kt) ?_
  exact oRetN X hx hlk hret (Or.inr (Or.inl rfl)) (show narrow .char (.int xc0) = .int xc0 from congrArg Value.int (oChr hr)) (hb hby d23_15) (by rw [e0]; exact ⟨rfl, rfl, K⟩) (by decide) (by decide)
theorem rCAT_3_0 (l : Launch) (Z : State) (a0 : Array Value) (hw : oHW a0 Z) (ws : List Jvm.Cond) (xa : Addr) (xfm : Value) (xz xc0 xc1 xc2 : Int32) (h0 : Heap) (O0 : Ext Z.heap h0) (S_Z : Sta Z Z.heap Y0 Y2 "Z" (.int xz)) (hz : ¬ xz = (0 : Int32)) (S_A : Sta Z Z.heap Y1 Y3 "Z" (.int (1 : Int32))) (S_H : Sta Z Z.heap Y1 "HI_BYTE_SHIFT" "I" (.int (0 : Int32))) (S_L : Sta Z Z.heap Y1 "LO_BYTE_SHIFT" "I" (.int (8 : Int32))) (S_F : Sta Z Z.heap Y4 Y5 Y6 xfm) (hcat : xfm.category = 1) (T_xa : oTx Z h0 xa [xc0, xc1, xc2]) :
    oCon l Z yy9 jdk_42_method_56_code 2 (some .char) ws ({ frames := 4, cells := 0, slots := 0, locals := 53 } : Room) #[(.ref xa), (.int (0 : Int32))] h0 (oPq (some (.int xc0)) h0) := by
  obtain ⟨b, k, E, V, ⟨C, A, R⟩ | ⟨C, A, R⟩⟩ := T_xa
  · exact rCA_3_0 l Z a0 hw ws xa b k xfm xz xc0 xc1 xc2 h0 O0 S_Z hz S_F hcat (R _ (List.mem_of_getElem? (i := 0) rfl)) E C V A
  · exact rCAU_3_0 l Z a0 hw ws xa b k xfm xz xc0 xc1 xc2 h0 O0 S_Z hz S_A S_H S_L S_F hcat (R _ (List.mem_of_getElem? (i := 0) rfl)) E C V A
theorem rUCk_3_1 (l : Launch) (Z : State) (a0 : Array Value) (hw : oHW a0 Z) (ws : List Jvm.Cond) (xb : Addr) (xk : ClassId) (xfm : Value) (xc0 xc1 xc2 : Int32) (h0 : Heap) (O0 : Ext Z.heap h0) (S_F : Sta Z Z.heap Y4 Y5 Y6 xfm) (hcat : xfm.category = 1) (V_xb : Arv Z h0 xb xk .byte (6 : Int32) [(iu0 xc0), (iu8 xc0), (iu0 xc1), (iu8 xc1), (iu0 xc2), (iu8 xc2)] (.int (0 : Int32))) :
    oCon l Z yy6 jdk_52_method_91_code 2 none ws ({ frames := 2, cells := 0, slots := 0, locals := 27 } : Room) #[(.int (1 : Int32)), (.ref xb)] h0 (oPq none h0) := by
  refine oCon.of (plainFor_of_name pn_2) ?_
  intro p e s m below meth c T X hx hby hml hown hnm hret hlk hZ e0
  have hml : c.maxLocals = 2 := hml
  have K : oKp h0 h0 [] [] := oKp.nil _ _
  refine oWk.cast (g' := (mkF m 0 #[iv 1, rv xb] [])) (by first | rfl | (simp [entryFrame, mkF, argsToLocals, Value.category]; done)) ?_
  refine oWk.st (fun _ kt => zI X hx hby d26_0 rfl rfl (zA X hx hby d26_1 rfl rfl rfl kt)) ?_
  have Oh := K.old O0 all0
  obtain ⟨T, L2, X, e0, K, st⟩ := (cs2 hw).pure X hx hZ hown e0 K (A := [(.ref xb)]) rfl (rUL_3 l Z a0 hw [] xb xk xc0 xc1 xc2 h0 Oh V_xb) (W := 1) (by decide) hml (Ls := #[iv 1, rv xb]) rfl (rest := [(.int (1 : Int32))]) rfl rfl hby d26_2
  refine oWk.st (fun _ kt => st _ kt) ?_
  obtain ⟨T, L4, X, e0, K, st⟩ := (cs3 hw).pure X hx hZ hown e0 K (A := [(.int (1 : Int32)), (.int (3 : Int32))]) rfl (rCkI l Z a0 hw [] (1 : Int32) (3 : Int32) xfm h0 Oh S_F hcat (by decide) (by decide)) (W := 0) (by decide) hml (Ls := #[iv 1, rv xb]) rfl (rest := []) rfl rfl hby d26_5
  refine oWk.to (mkF m 8 #[iv 1, rv xb] []) (fun _ kt => st _ kt) ?_
  exact oRetV X hx hlk hret (hb hby d26_8) (by rw [e0]; exact ⟨rfl, rfl, K⟩) (by decide) (by decide)
theorem rGC_3_1 (l : Launch) (Z : State) (a0 : Array Value) (hw : oHW a0 Z) (ws : List Jvm.Cond) (xb : Addr) (xk : ClassId) (xc0 xc1 xc2 : Int32) (h0 : Heap) (O0 : Ext Z.heap h0) (S_A : Sta Z Z.heap Y1 Y3 "Z" (.int (1 : Int32))) (S_H : Sta Z Z.heap Y1 "HI_BYTE_SHIFT" "I" (.int (0 : Int32))) (S_L : Sta Z Z.heap Y1 "LO_BYTE_SHIFT" "I" (.int (8 : Int32))) (hr : 0 ≤ xc1.toInt ∧ xc1.toInt < 65536) (V_xb : Arv Z h0 xb xk .byte (6 : Int32) [(iu0 xc0), (iu8 xc0), (iu0 xc1), (iu8 xc1), (iu0 xc2), (iu8 xc2)] (.int (0 : Int32))) :
    oCon l Z yy7 jdk_52_method_5_code 2 (some .char) ws ({ frames := 0, cells := 0, slots := 0, locals := 0 } : Room) #[(.ref xb), (.int (1 : Int32))] h0 (oPq (some (.int xc1)) h0) := by
  refine oCon.of (plainFor_of_name pn_2) ?_
  intro p e s m below meth c T X hx hby hml hown hnm hret hlk hZ e0
  have hml : c.maxLocals = 2 := hml
  have K : oKp h0 h0 [] [] := oKp.nil _ _
  refine oWk.cast (g' := (mkF m 0 #[rv xb, iv 1] [])) (by first | rfl | (simp [entryFrame, mkF, argsToLocals, Value.category]; done)) ?_
  have Oh := K.old O0 all0
  obtain ⟨T, X, e0, st⟩ := getS2 X hx hZ hown (host := "") (Or.inl (oW hw 93 rfl)) Via.refl e0 (S_A.ext Oh) (g := (mkF m 0 #[rv xb, iv 1] [])) rfl (hb hby d22_0)
  refine oWk.to (mkF m 33 #[rv xb, iv 2] [(.ref xb)]) (fun _ kt => st _ (zF X hx hby d22_3 rfl rfl ((if0 _ _).trans (feq (by decide)).2) (pc' := 28) rfl (zI X hx hby d22_28 rfl rfl (zK X hx hby d22_29 rfl (XS.ishl X.here hx rfl (hb hby d22_30) rfl (zSn X hx hby d22_31 rfl rfl (l' := #[rv xb, iv 2]) rfl (zA X hx hby d22_32 rfl rfl rfl kt))))))) ?_
  refine oWk.st (fun _ kt => zI X hx hby d22_33 rfl rfl (zC X hx hby d22_34 rfl rfl (l' := #[rv xb, iv ((2 : Int32) + (1 : Int32))]) rfl (oLdB X hx hZ e0 V_xb (2 : Int32) (iu0 xc1) ⟨by decide, by decide⟩ rfl hby d22_37 rfl rfl (zM X hx hby d22_38 rfl (XS.iand X.here hx rfl (hb hby d22_41) rfl kt))))) ?_
  obtain ⟨T, X, e0, st⟩ := getS2 X hx hZ hown (host := "") (Or.inl (oW hw 94 rfl)) Via.refl e0 (S_H.ext Oh) (g := (mkF m 42 #[rv xb, iv 3] [(.int (((xc1 >>> ((0 : Int32) &&& 31)).toInt8.toInt32) &&& (255 : Int32)))])) rfl (hb hby d22_42)
  refine oWk.to (mkF m 53 #[rv xb, iv 3] [(.int (((xc1 >>> ((8 : Int32) &&& 31)).toInt8.toInt32) &&& (255 : Int32))), (.int ((((xc1 >>> ((0 : Int32) &&& 31)).toInt8.toInt32) &&& (255 : Int32)) <<< ((0 : Int32) &&& 31)))]) (fun _ kt => st _ (XS.ishl X.here hx rfl (hb hby d22_45) rfl (zA X hx hby d22_46 rfl rfl rfl (zI X hx hby d22_47 rfl rfl (oLdB X hx hZ e0 V_xb (3 : Int32) (iu8 xc1) ⟨by decide, by decide⟩ rfl hby d22_48 rfl rfl (zM X hx hby d22_49 rfl (XS.iand X.here hx rfl (hb hby d22_52) rfl kt))))))) ?_
  obtain ⟨T, X, e0, st⟩ := getS2 X hx hZ hown (host := "") (Or.inl (oW hw 95 rfl)) Via.refl e0 (S_L.ext Oh) (g := (mkF m 53 #[rv xb, iv 3] [(.int (((xc1 >>> ((8 : Int32) &&& 31)).toInt8.toInt32) &&& (255 : Int32))), (.int ((((xc1 >>> ((0 : Int32) &&& 31)).toInt8.toInt32) &&& (255 : Int32)) <<< ((0 : Int32) &&& 31)))])) rfl (hb hby d22_53)
  refine oWk.to (mkF m 59 #[rv xb, iv 3] [(.int ((((((xc1 >>> ((0 : Int32) &&& 31)).toInt8.toInt32) &&& (255 : Int32)) <<< ((0 : Int32) &&& 31)) ||| ((((xc1 >>> ((8 : Int32) &&& 31)).toInt8.toInt32) &&& (255 : Int32)) <<< ((8 : Int32) &&& 31))).toUInt32.toUInt16.toUInt32.toInt32))]) (fun _ kt => st _ (XS.ishl X.here hx rfl (hb hby d22_56) rfl (XS.ior X.here hx rfl (hb hby d22_57) rfl (XS.i2c X.here hx rfl (hb hby d22_58) rfl kt)))) ?_
  show oWk _ _ _ _ T (mkF m 59 #[rv xb, iv 3] [(.int ((((((xc1 >>> ((0 : Int32) &&& 31)).toInt8.toInt32) &&& (255 : Int32)) <<< ((0 : Int32) &&& 31)) ||| ((((xc1 >>> ((8 : Int32) &&& 31)).toInt8.toInt32) &&& (255 : Int32)) <<< ((8 : Int32) &&& 31))).toUInt32.toUInt16.toUInt32.toInt32))])
  rw [oU16 hr]
  show oWk _ _ _ _ T (mkF m 59 #[rv xb, iv 3] [(.int xc1)])
  exact oRetN X hx hlk hret (Or.inr (Or.inl rfl)) (show narrow .char (.int xc1) = .int xc1 from congrArg Value.int (oChrU hr)) (hb hby d22_59) (by rw [e0]; exact ⟨rfl, rfl, K⟩) (by decide) (by decide)
theorem rUC_3_1 (l : Launch) (Z : State) (a0 : Array Value) (hw : oHW a0 Z) (ws : List Jvm.Cond) (xb : Addr) (xk : ClassId) (xfm : Value) (xc0 xc1 xc2 : Int32) (h0 : Heap) (O0 : Ext Z.heap h0) (S_A : Sta Z Z.heap Y1 Y3 "Z" (.int (1 : Int32))) (S_H : Sta Z Z.heap Y1 "HI_BYTE_SHIFT" "I" (.int (0 : Int32))) (S_L : Sta Z Z.heap Y1 "LO_BYTE_SHIFT" "I" (.int (8 : Int32))) (S_F : Sta Z Z.heap Y4 Y5 Y6 xfm) (hcat : xfm.category = 1) (hr : 0 ≤ xc1.toInt ∧ xc1.toInt < 65536) (V_xb : Arv Z h0 xb xk .byte (6 : Int32) [(iu0 xc0), (iu8 xc0), (iu0 xc1), (iu8 xc1), (iu0 xc2), (iu8 xc2)] (.int (0 : Int32))) :
    oCon l Z yy8 jdk_52_method_83_code 2 (some .char) ws ({ frames := 3, cells := 0, slots := 0, locals := 40 } : Room) #[(.ref xb), (.int (1 : Int32))] h0 (oPq (some (.int xc1)) h0) := by
  refine oCon.of (plainFor_of_name pn_2) ?_
  intro p e s m below meth c T X hx hby hml hown hnm hret hlk hZ e0
  have hml : c.maxLocals = 2 := hml
  have K : oKp h0 h0 [] [] := oKp.nil _ _
  refine oWk.cast (g' := (mkF m 0 #[rv xb, iv 1] [])) (by first | rfl | (simp [entryFrame, mkF, argsToLocals, Value.category]; done)) ?_
  refine oWk.st (fun _ kt => zI X hx hby d25_0 rfl rfl (zA X hx hby d25_1 rfl rfl rfl kt)) ?_
  have Oh := K.old O0 all0
  obtain ⟨T, L2, X, e0, K, st⟩ := (cs4 hw).pure X hx hZ hown e0 K (A := [(.int (1 : Int32)), (.ref xb)]) rfl (rUCk_3_1 l Z a0 hw [] xb xk xfm xc0 xc1 xc2 h0 Oh S_F hcat V_xb) (W := 0) (by decide) hml (Ls := #[rv xb, iv 1]) rfl (rest := []) rfl rfl hby d25_2
  refine oWk.st (fun _ kt => st _ (zA X hx hby d25_5 rfl rfl rfl (zI X hx hby d25_6 rfl rfl kt))) ?_
  obtain ⟨T, L4, X, e0, K, st⟩ := (cs5 hw).pure X hx hZ hown e0 K (A := [(.ref xb), (.int (1 : Int32))]) rfl (rGC_3_1 l Z a0 hw [] xb xk xc0 xc1 xc2 h0 Oh S_A S_H S_L hr V_xb) (W := 0) (by decide) hml (Ls := #[rv xb, iv 1]) rfl (rest := []) rfl rfl hby d25_7
  refine oWk.to (mkF m 10 #[rv xb, iv 1] [(.int xc1)]) (fun _ kt => st _ kt) ?_
  exact oRetN X hx hlk hret (Or.inr (Or.inl rfl)) (show narrow .char (.int xc1) = .int xc1 from congrArg Value.int (oChrU hr)) (hb hby d25_10) (by rw [e0]; exact ⟨rfl, rfl, K⟩) (by decide) (by decide)
theorem rCAU_3_1 (l : Launch) (Z : State) (a0 : Array Value) (hw : oHW a0 Z) (ws : List Jvm.Cond) (xa xb : Addr) (xk : ClassId) (xfm : Value) (xz xc0 xc1 xc2 : Int32) (h0 : Heap) (O0 : Ext Z.heap h0) (S_Z : Sta Z Z.heap Y0 Y2 "Z" (.int xz)) (hz : ¬ xz = (0 : Int32)) (S_A : Sta Z Z.heap Y1 Y3 "Z" (.int (1 : Int32))) (S_H : Sta Z Z.heap Y1 "HI_BYTE_SHIFT" "I" (.int (0 : Int32))) (S_L : Sta Z Z.heap Y1 "LO_BYTE_SHIFT" "I" (.int (8 : Int32))) (S_F : Sta Z Z.heap Y4 Y5 Y6 xfm) (hcat : xfm.category = 1) (hr : 0 ≤ xc1.toInt ∧ xc1.toInt < 65536) (E_xa : Exa Z h0 xa Y0) (F_coder_xa : Fld Z h0 xa Y0 "coder" "B" (.int (1 : Int32))) (F_value_xa : Fld Z h0 xa Y0 "value" "[B" (.ref xb)) (V_xb : Arv Z h0 xb xk .byte (6 : Int32) [(iu0 xc0), (iu8 xc0), (iu0 xc1), (iu8 xc1), (iu0 xc2), (iu8 xc2)] (.int (0 : Int32))) :
    oCon l Z yy9 jdk_42_method_56_code 2 (some .char) ws ({ frames := 4, cells := 0, slots := 0, locals := 53 } : Room) #[(.ref xa), (.int (1 : Int32))] h0 (oPq (some (.int xc1)) h0) := by
  refine oCon.of (plainFor_of_name pn_0) ?_
  intro p e s m below meth c T X hx hby hml hown hnm hret hlk hZ e0
  have hml : c.maxLocals = 2 := hml
  have K : oKp h0 h0 [] [] := oKp.nil _ _
  refine oWk.cast (g' := (mkF m 0 #[rv xa, iv 1] [])) (by first | rfl | (simp [entryFrame, mkF, argsToLocals, Value.category]; done)) ?_
  refine oWk.st (fun _ kt => zA X hx hby d23_0 rfl rfl rfl kt) ?_
  have Oh := K.old O0 all0
  obtain ⟨T, L2, X, e0, K, st⟩ := (cs6 hw).pure X hx hZ hown e0 K (A := [(.ref xa)]) ⟨rfl, _, _, rfl, E_xa⟩ (rIsL1 l Z a0 hw [] xa xz h0 Oh S_Z hz F_coder_xa) (W := 0) (by decide) hml (Ls := #[rv xa, iv 1]) rfl (rest := []) rfl rfl hby d23_1
  refine oWk.st (fun _ kt => st _ (zF X hx hby d23_4 rfl rfl ((if0 _ _).trans (teq (by decide)).1) (pc' := 16) rfl (zA X hx hby d23_16 rfl rfl rfl kt))) ?_
  obtain ⟨T, X, e0, st⟩ := getF X hx hZ hown (host := "") (Or.inl (oW hw 33 rfl)) Via.refl e0 F_value_xa (g := (mkF m 17 #[rv xa, iv 1] [(.ref xa)])) rfl rfl (hb hby d23_17)
  refine oWk.st (fun _ kt => st _ (zI X hx hby d23_20 rfl rfl kt)) ?_
  obtain ⟨T, L4, X, e0, K, st⟩ := (cs7 hw).pure X hx hZ hown e0 K (A := [(.ref xb), (.int (1 : Int32))]) rfl (rUC_3_1 l Z a0 hw [] xb xk xfm xc0 xc1 xc2 h0 Oh S_A S_H S_L S_F hcat hr V_xb) (W := 0) (by decide) hml (Ls := #[rv xa, iv 1]) rfl (rest := []) rfl rfl hby d23_21
  refine oWk.to (mkF m 24 #[rv xa, iv 1] [(.int xc1)]) (fun _ kt => st _ kt) ?_
  exact oRetN X hx hlk hret (Or.inr (Or.inl rfl)) (show narrow .char (.int xc1) = .int xc1 from congrArg Value.int (oChrU hr)) (hb hby d23_24) (by rw [e0]; exact ⟨rfl, rfl, K⟩) (by decide) (by decide)
theorem rLC_3_1 (l : Launch) (Z : State) (a0 : Array Value) (hw : oHW a0 Z) (ws : List Jvm.Cond) (xb : Addr) (xk : ClassId) (xfm : Value) (xc0 xc1 xc2 : Int32) (h0 : Heap) (O0 : Ext Z.heap h0) (S_F : Sta Z Z.heap Y4 Y5 Y6 xfm) (hcat : xfm.category = 1) (hr : 0 ≤ xc1.toInt ∧ xc1.toInt < 256) (V_xb : Arv Z h0 xb xk .byte (3 : Int32) [(ib xc0), (ib xc1), (ib xc2)] (.int (0 : Int32))) :
    oCon l Z yy10 jdk_43_method_2_code 2 (some .char) ws ({ frames := 2, cells := 0, slots := 0, locals := 27 } : Room) #[(.ref xb), (.int (1 : Int32))] h0 (oPq (some (.int xc1)) h0) := by
  refine oCon.of (plainFor_of_name pn_3) ?_
  intro p e s m below meth c T X hx hby hml hown hnm hret hlk hZ e0
  have hml : c.maxLocals = 2 := hml
  have K : oKp h0 h0 [] [] := oKp.nil _ _
  refine oWk.cast (g' := (mkF m 0 #[rv xb, iv 1] [])) (by first | rfl | (simp [entryFrame, mkF, argsToLocals, Value.category]; done)) ?_
  refine oWk.st (fun _ kt => zI X hx hby d31_0 rfl rfl (zA X hx hby d31_1 rfl rfl rfl (oAl X hx hZ e0 V_xb hby d31_2 rfl rfl kt))) ?_
  have Oh := K.old O0 all0
  obtain ⟨T, L3, X, e0, K, st⟩ := (cs8 hw).pure X hx hZ hown e0 K (A := [(.int (1 : Int32)), (.int (3 : Int32))]) rfl (rCkI l Z a0 hw [] (1 : Int32) (3 : Int32) xfm h0 Oh S_F hcat (by decide) (by decide)) (W := 0) (by decide) hml (Ls := #[rv xb, iv 1]) rfl (rest := []) rfl rfl hby d31_3
  refine oWk.to (mkF m 14 #[rv xb, iv 1] [(.int (((xc1.toInt8.toInt32) &&& (255 : Int32)).toUInt32.toUInt16.toUInt32.toInt32))]) (fun _ kt => st _ (zA X hx hby d31_6 rfl rfl rfl (zI X hx hby d31_7 rfl rfl (oLdB X hx hZ e0 V_xb (1 : Int32) (ib xc1) ⟨by decide, by decide⟩ rfl hby d31_8 rfl rfl (zM X hx hby d31_9 rfl (XS.iand X.here hx rfl (hb hby d31_12) rfl (XS.i2c X.here hx rfl (hb hby d31_13) rfl kt))))))) ?_
  rw [oBk hr]
  show oWk _ _ _ _ T (mkF m 14 #[rv xb, iv 1] [(.int xc1)])
  exact oRetN X hx hlk hret (Or.inr (Or.inl rfl)) (show narrow .char (.int xc1) = .int xc1 from congrArg Value.int (oChr hr)) (hb hby d31_14) (by rw [e0]; exact ⟨rfl, rfl, K⟩) (by decide) (by decide)
theorem rCA_3_1 (l : Launch) (Z : State) (a0 : Array Value) (hw : oHW a0 Z) (ws : List Jvm.Cond) (xa xb : Addr) (xk : ClassId) (xfm : Value) (xz xc0 xc1 xc2 : Int32) (h0 : Heap) (O0 : Ext Z.heap h0) (S_Z : Sta Z Z.heap Y0 Y2 "Z" (.int xz)) (hz : ¬ xz = (0 : Int32)) (S_F : Sta Z Z.heap Y4 Y5 Y6 xfm) (hcat : xfm.category = 1) (hr : 0 ≤ xc1.toInt ∧ xc1.toInt < 256) (E_xa : Exa Z h0 xa Y0) (F_coder_xa : Fld Z h0 xa Y0 "coder" "B" (.int (0 : Int32))) (F_value_xa : Fld Z h0 xa Y0 "value" "[B" (.ref xb)) (V_xb : Arv Z h0 xb xk .byte (3 : Int32) [(ib xc0), (ib xc1), (ib xc2)] (.int (0 : Int32))) :
    oCon l Z yy9 jdk_42_method_56_code 2 (some .char) ws ({ frames := 4, cells := 0, slots := 0, locals := 53 } : Room) #[(.ref xa), (.int (1 : Int32))] h0 (oPq (some (.int xc1)) h0) := by
  refine oCon.of (plainFor_of_name pn_0) ?_
  intro p e s m below meth c T X hx hby hml hown hnm hret hlk hZ e0
  have hml : c.maxLocals = 2 := hml
  have K : oKp h0 h0 [] [] := oKp.nil _ _
  refine oWk.cast (g' := (mkF m 0 #[rv xa, iv 1] [])) (by first | rfl | (simp [entryFrame, mkF, argsToLocals, Value.category]; done)) ?_
  refine oWk.st (fun _ kt => zA X hx hby d23_0 rfl rfl rfl kt) ?_
  have Oh := K.old O0 all0
  obtain ⟨T, L2, X, e0, K, st⟩ := (cs6 hw).pure X hx hZ hown e0 K (A := [(.ref xa)]) ⟨rfl, _, _, rfl, E_xa⟩ (rIsL l Z a0 hw [] xa xz h0 Oh S_Z hz F_coder_xa) (W := 0) (by decide) hml (Ls := #[rv xa, iv 1]) rfl (rest := []) rfl rfl hby d23_1
  refine oWk.st (fun _ kt => st _ (zH X hx hby d23_4 rfl rfl ((if0 _ _).trans (feq (by decide)).1) (zA X hx hby d23_7 rfl rfl rfl kt))) ?_
  obtain ⟨T, X, e0, st⟩ := getF X hx hZ hown (host := "") (Or.inl (oW hw 33 rfl)) Via.refl e0 F_value_xa (g := (mkF m 8 #[rv xa, iv 1] [(.ref xa)])) rfl rfl (hb hby d23_8)
  refine oWk.st (fun _ kt => st _ (zI X hx hby d23_11 rfl rfl kt)) ?_
  obtain ⟨T, L4, X, e0, K, st⟩ := (cs9 hw).pure X hx hZ hown e0 K (A := [(.ref xb), (.int (1 : Int32))]) rfl (rLC_3_1 l Z a0 hw [] xb xk xfm xc0 xc1 xc2 h0 Oh S_F hcat hr V_xb) (W := 0) (by decide) hml (Ls := #[rv xa, iv 1]) rfl (rest := []) rfl rfl hby d23_12
  refine oWk.to (mkF m 15 #[rv xa, iv 1] [(.int xc1)]) (fun _ kt => st _ kt) ?_
  exact oRetN X hx hlk hret (Or.inr (Or.inl rfl)) (show narrow .char (.int xc1) = .int xc1 from congrArg Value.int (oChr hr)) (hb hby d23_15) (by rw [e0]; exact ⟨rfl, rfl, K⟩) (by decide) (by decide)
theorem rCAT_3_1 (l : Launch) (Z : State) (a0 : Array Value) (hw : oHW a0 Z) (ws : List Jvm.Cond) (xa : Addr) (xfm : Value) (xz xc0 xc1 xc2 : Int32) (h0 : Heap) (O0 : Ext Z.heap h0) (S_Z : Sta Z Z.heap Y0 Y2 "Z" (.int xz)) (hz : ¬ xz = (0 : Int32)) (S_A : Sta Z Z.heap Y1 Y3 "Z" (.int (1 : Int32))) (S_H : Sta Z Z.heap Y1 "HI_BYTE_SHIFT" "I" (.int (0 : Int32))) (S_L : Sta Z Z.heap Y1 "LO_BYTE_SHIFT" "I" (.int (8 : Int32))) (S_F : Sta Z Z.heap Y4 Y5 Y6 xfm) (hcat : xfm.category = 1) (T_xa : oTx Z h0 xa [xc0, xc1, xc2]) :
    oCon l Z yy9 jdk_42_method_56_code 2 (some .char) ws ({ frames := 4, cells := 0, slots := 0, locals := 53 } : Room) #[(.ref xa), (.int (1 : Int32))] h0 (oPq (some (.int xc1)) h0) := by
  obtain ⟨b, k, E, V, ⟨C, A, R⟩ | ⟨C, A, R⟩⟩ := T_xa
  · exact rCA_3_1 l Z a0 hw ws xa b k xfm xz xc0 xc1 xc2 h0 O0 S_Z hz S_F hcat (R _ (List.mem_of_getElem? (i := 1) rfl)) E C V A
  · exact rCAU_3_1 l Z a0 hw ws xa b k xfm xz xc0 xc1 xc2 h0 O0 S_Z hz S_A S_H S_L S_F hcat (R _ (List.mem_of_getElem? (i := 1) rfl)) E C V A
theorem rUCk_3_2 (l : Launch) (Z : State) (a0 : Array Value) (hw : oHW a0 Z) (ws : List Jvm.Cond) (xb : Addr) (xk : ClassId) (xfm : Value) (xc0 xc1 xc2 : Int32) (h0 : Heap) (O0 : Ext Z.heap h0) (S_F : Sta Z Z.heap Y4 Y5 Y6 xfm) (hcat : xfm.category = 1) (V_xb : Arv Z h0 xb xk .byte (6 : Int32) [(iu0 xc0), (iu8 xc0), (iu0 xc1), (iu8 xc1), (iu0 xc2), (iu8 xc2)] (.int (0 : Int32))) :
    oCon l Z yy6 jdk_52_method_91_code 2 none ws ({ frames := 2, cells := 0, slots := 0, locals := 27 } : Room) #[(.int (2 : Int32)), (.ref xb)] h0 (oPq none h0) := by
  refine oCon.of (plainFor_of_name pn_2) ?_
  intro p e s m below meth c T X hx hby hml hown hnm hret hlk hZ e0
  have hml : c.maxLocals = 2 := hml
  have K : oKp h0 h0 [] [] := oKp.nil _ _
  refine oWk.cast (g' := (mkF m 0 #[iv 2, rv xb] [])) (by first | rfl | (simp [entryFrame, mkF, argsToLocals, Value.category]; done)) ?_
  refine oWk.st (fun _ kt => zI X hx hby d26_0 rfl rfl (zA X hx hby d26_1 rfl rfl rfl kt)) ?_
  have Oh := K.old O0 all0
  obtain ⟨T, L2, X, e0, K, st⟩ := (cs2 hw).pure X hx hZ hown e0 K (A := [(.ref xb)]) rfl (rUL_3 l Z a0 hw [] xb xk xc0 xc1 xc2 h0 Oh V_xb) (W := 1) (by decide) hml (Ls := #[iv 2, rv xb]) rfl (rest := [(.int (2 : Int32))]) rfl rfl hby d26_2
  refine oWk.st (fun _ kt => st _ kt) ?_
  obtain ⟨T, L4, X, e0, K, st⟩ := (cs3 hw).pure X hx hZ hown e0 K (A := [(.int (2 : Int32)), (.int (3 : Int32))]) rfl (rCkI l Z a0 hw [] (2 : Int32) (3 : Int32) xfm h0 Oh S_F hcat (by decide) (by decide)) (W := 0) (by decide) hml (Ls := #[iv 2, rv xb]) rfl (rest := []) rfl rfl hby d26_5
  refine oWk.to (mkF m 8 #[iv 2, rv xb] []) (fun _ kt => st _ kt) ?_
  exact oRetV X hx hlk hret (hb hby d26_8) (by rw [e0]; exact ⟨rfl, rfl, K⟩) (by decide) (by decide)
theorem rGC_3_2 (l : Launch) (Z : State) (a0 : Array Value) (hw : oHW a0 Z) (ws : List Jvm.Cond) (xb : Addr) (xk : ClassId) (xc0 xc1 xc2 : Int32) (h0 : Heap) (O0 : Ext Z.heap h0) (S_A : Sta Z Z.heap Y1 Y3 "Z" (.int (1 : Int32))) (S_H : Sta Z Z.heap Y1 "HI_BYTE_SHIFT" "I" (.int (0 : Int32))) (S_L : Sta Z Z.heap Y1 "LO_BYTE_SHIFT" "I" (.int (8 : Int32))) (hr : 0 ≤ xc2.toInt ∧ xc2.toInt < 65536) (V_xb : Arv Z h0 xb xk .byte (6 : Int32) [(iu0 xc0), (iu8 xc0), (iu0 xc1), (iu8 xc1), (iu0 xc2), (iu8 xc2)] (.int (0 : Int32))) :
    oCon l Z yy7 jdk_52_method_5_code 2 (some .char) ws ({ frames := 0, cells := 0, slots := 0, locals := 0 } : Room) #[(.ref xb), (.int (2 : Int32))] h0 (oPq (some (.int xc2)) h0) := by
  refine oCon.of (plainFor_of_name pn_2) ?_
  intro p e s m below meth c T X hx hby hml hown hnm hret hlk hZ e0
  have hml : c.maxLocals = 2 := hml
  have K : oKp h0 h0 [] [] := oKp.nil _ _
  refine oWk.cast (g' := (mkF m 0 #[rv xb, iv 2] [])) (by first | rfl | (simp [entryFrame, mkF, argsToLocals, Value.category]; done)) ?_
  have Oh := K.old O0 all0
  obtain ⟨T, X, e0, st⟩ := getS2 X hx hZ hown (host := "") (Or.inl (oW hw 93 rfl)) Via.refl e0 (S_A.ext Oh) (g := (mkF m 0 #[rv xb, iv 2] [])) rfl (hb hby d22_0)
  refine oWk.to (mkF m 33 #[rv xb, iv 4] [(.ref xb)]) (fun _ kt => st _ (zF X hx hby d22_3 rfl rfl ((if0 _ _).trans (feq (by decide)).2) (pc' := 28) rfl (zI X hx hby d22_28 rfl rfl (zK X hx hby d22_29 rfl (XS.ishl X.here hx rfl (hb hby d22_30) rfl (zSn X hx hby d22_31 rfl rfl (l' := #[rv xb, iv 4]) rfl (zA X hx hby d22_32 rfl rfl rfl kt))))))) ?_
  refine oWk.st (fun _ kt => zI X hx hby d22_33 rfl rfl (zC X hx hby d22_34 rfl rfl (l' := #[rv xb, iv ((4 : Int32) + (1 : Int32))]) rfl (oLdB X hx hZ e0 V_xb (4 : Int32) (iu0 xc2) ⟨by decide, by decide⟩ rfl hby d22_37 rfl rfl (zM X hx hby d22_38 rfl (XS.iand X.here hx rfl (hb hby d22_41) rfl kt))))) ?_
  obtain ⟨T, X, e0, st⟩ := getS2 X hx hZ hown (host := "") (Or.inl (oW hw 94 rfl)) Via.refl e0 (S_H.ext Oh) (g := (mkF m 42 #[rv xb, iv 5] [(.int (((xc2 >>> ((0 : Int32) &&& 31)).toInt8.toInt32) &&& (255 : Int32)))])) rfl (hb hby d22_42)
  refine oWk.to (mkF m 53 #[rv xb, iv 5] [(.int (((xc2 >>> ((8 : Int32) &&& 31)).toInt8.toInt32) &&& (255 : Int32))), (.int ((((xc2 >>> ((0 : Int32) &&& 31)).toInt8.toInt32) &&& (255 : Int32)) <<< ((0 : Int32) &&& 31)))]) (fun _ kt => st _ (XS.ishl X.here hx rfl (hb hby d22_45) rfl (zA X hx hby d22_46 rfl rfl rfl (zI X hx hby d22_47 rfl rfl (oLdB X hx hZ e0 V_xb (5 : Int32) (iu8 xc2) ⟨by decide, by decide⟩ rfl hby d22_48 rfl rfl (zM X hx hby d22_49 rfl (XS.iand X.here hx rfl (hb hby d22_52) rfl kt))))))) ?_
  obtain ⟨T, X, e0, st⟩ := getS2 X hx hZ hown (host := "") (Or.inl (oW hw 95 rfl)) Via.refl e0 (S_L.ext Oh) (g := (mkF m 53 #[rv xb, iv 5] [(.int (((xc2 >>> ((8 : Int32) &&& 31)).toInt8.toInt32) &&& (255 : Int32))), (.int ((((xc2 >>> ((0 : Int32) &&& 31)).toInt8.toInt32) &&& (255 : Int32)) <<< ((0 : Int32) &&& 31)))])) rfl (hb hby d22_53)
  refine oWk.to (mkF m 59 #[rv xb, iv 5] [(.int ((((((xc2 >>> ((0 : Int32) &&& 31)).toInt8.toInt32) &&& (255 : Int32)) <<< ((0 : Int32) &&& 31)) ||| ((((xc2 >>> ((8 : Int32) &&& 31)).toInt8.toInt32) &&& (255 : Int32)) <<< ((8 : Int32) &&& 31))).toUInt32.toUInt16.toUInt32.toInt32))]) (fun _ kt => st _ (XS.ishl X.here hx rfl (hb hby d22_56) rfl (XS.ior X.here hx rfl (hb hby d22_57) rfl (XS.i2c X.here hx rfl (hb hby d22_58) rfl kt)))) ?_
  show oWk _ _ _ _ T (mkF m 59 #[rv xb, iv 5] [(.int ((((((xc2 >>> ((0 : Int32) &&& 31)).toInt8.toInt32) &&& (255 : Int32)) <<< ((0 : Int32) &&& 31)) ||| ((((xc2 >>> ((8 : Int32) &&& 31)).toInt8.toInt32) &&& (255 : Int32)) <<< ((8 : Int32) &&& 31))).toUInt32.toUInt16.toUInt32.toInt32))])
  rw [oU16 hr]
  show oWk _ _ _ _ T (mkF m 59 #[rv xb, iv 5] [(.int xc2)])
  exact oRetN X hx hlk hret (Or.inr (Or.inl rfl)) (show narrow .char (.int xc2) = .int xc2 from congrArg Value.int (oChrU hr)) (hb hby d22_59) (by rw [e0]; exact ⟨rfl, rfl, K⟩) (by decide) (by decide)
theorem rUC_3_2 (l : Launch) (Z : State) (a0 : Array Value) (hw : oHW a0 Z) (ws : List Jvm.Cond) (xb : Addr) (xk : ClassId) (xfm : Value) (xc0 xc1 xc2 : Int32) (h0 : Heap) (O0 : Ext Z.heap h0) (S_A : Sta Z Z.heap Y1 Y3 "Z" (.int (1 : Int32))) (S_H : Sta Z Z.heap Y1 "HI_BYTE_SHIFT" "I" (.int (0 : Int32))) (S_L : Sta Z Z.heap Y1 "LO_BYTE_SHIFT" "I" (.int (8 : Int32))) (S_F : Sta Z Z.heap Y4 Y5 Y6 xfm) (hcat : xfm.category = 1) (hr : 0 ≤ xc2.toInt ∧ xc2.toInt < 65536) (V_xb : Arv Z h0 xb xk .byte (6 : Int32) [(iu0 xc0), (iu8 xc0), (iu0 xc1), (iu8 xc1), (iu0 xc2), (iu8 xc2)] (.int (0 : Int32))) :
    oCon l Z yy8 jdk_52_method_83_code 2 (some .char) ws ({ frames := 3, cells := 0, slots := 0, locals := 40 } : Room) #[(.ref xb), (.int (2 : Int32))] h0 (oPq (some (.int xc2)) h0) := by
  refine oCon.of (plainFor_of_name pn_2) ?_
  intro p e s m below meth c T X hx hby hml hown hnm hret hlk hZ e0
  have hml : c.maxLocals = 2 := hml
  have K : oKp h0 h0 [] [] := oKp.nil _ _
  refine oWk.cast (g' := (mkF m 0 #[rv xb, iv 2] [])) (by first | rfl | (simp [entryFrame, mkF, argsToLocals, Value.category]; done)) ?_
  refine oWk.st (fun _ kt => zI X hx hby d25_0 rfl rfl (zA X hx hby d25_1 rfl rfl rfl kt)) ?_
  have Oh := K.old O0 all0
  obtain ⟨T, L2, X, e0, K, st⟩ := (cs4 hw).pure X hx hZ hown e0 K (A := [(.int (2 : Int32)), (.ref xb)]) rfl (rUCk_3_2 l Z a0 hw [] xb xk xfm xc0 xc1 xc2 h0 Oh S_F hcat V_xb) (W := 0) (by decide) hml (Ls := #[rv xb, iv 2]) rfl (rest := []) rfl rfl hby d25_2
  refine oWk.st (fun _ kt => st _ (zA X hx hby d25_5 rfl rfl rfl (zI X hx hby d25_6 rfl rfl kt))) ?_
  obtain ⟨T, L4, X, e0, K, st⟩ := (cs5 hw).pure X hx hZ hown e0 K (A := [(.ref xb), (.int (2 : Int32))]) rfl (rGC_3_2 l Z a0 hw [] xb xk xc0 xc1 xc2 h0 Oh S_A S_H S_L hr V_xb) (W := 0) (by decide) hml (Ls := #[rv xb, iv 2]) rfl (rest := []) rfl rfl hby d25_7
  refine oWk.to (mkF m 10 #[rv xb, iv 2] [(.int xc2)]) (fun _ kt => st _ kt) ?_
  exact oRetN X hx hlk hret (Or.inr (Or.inl rfl)) (show narrow .char (.int xc2) = .int xc2 from congrArg Value.int (oChrU hr)) (hb hby d25_10) (by rw [e0]; exact ⟨rfl, rfl, K⟩) (by decide) (by decide)
theorem rCAU_3_2 (l : Launch) (Z : State) (a0 : Array Value) (hw : oHW a0 Z) (ws : List Jvm.Cond) (xa xb : Addr) (xk : ClassId) (xfm : Value) (xz xc0 xc1 xc2 : Int32) (h0 : Heap) (O0 : Ext Z.heap h0) (S_Z : Sta Z Z.heap Y0 Y2 "Z" (.int xz)) (hz : ¬ xz = (0 : Int32)) (S_A : Sta Z Z.heap Y1 Y3 "Z" (.int (1 : Int32))) (S_H : Sta Z Z.heap Y1 "HI_BYTE_SHIFT" "I" (.int (0 : Int32))) (S_L : Sta Z Z.heap Y1 "LO_BYTE_SHIFT" "I" (.int (8 : Int32))) (S_F : Sta Z Z.heap Y4 Y5 Y6 xfm) (hcat : xfm.category = 1) (hr : 0 ≤ xc2.toInt ∧ xc2.toInt < 65536) (E_xa : Exa Z h0 xa Y0) (F_coder_xa : Fld Z h0 xa Y0 "coder" "B" (.int (1 : Int32))) (F_value_xa : Fld Z h0 xa Y0 "value" "[B" (.ref xb)) (V_xb : Arv Z h0 xb xk .byte (6 : Int32) [(iu0 xc0), (iu8 xc0), (iu0 xc1), (iu8 xc1), (iu0 xc2), (iu8 xc2)] (.int (0 : Int32))) :
    oCon l Z yy9 jdk_42_method_56_code 2 (some .char) ws ({ frames := 4, cells := 0, slots := 0, locals := 53 } : Room) #[(.ref xa), (.int (2 : Int32))] h0 (oPq (some (.int xc2)) h0) := by
  refine oCon.of (plainFor_of_name pn_0) ?_
  intro p e s m below meth c T X hx hby hml hown hnm hret hlk hZ e0
  have hml : c.maxLocals = 2 := hml
  have K : oKp h0 h0 [] [] := oKp.nil _ _
  refine oWk.cast (g' := (mkF m 0 #[rv xa, iv 2] [])) (by first | rfl | (simp [entryFrame, mkF, argsToLocals, Value.category]; done)) ?_
  refine oWk.st (fun _ kt => zA X hx hby d23_0 rfl rfl rfl kt) ?_
  have Oh := K.old O0 all0
  obtain ⟨T, L2, X, e0, K, st⟩ := (cs6 hw).pure X hx hZ hown e0 K (A := [(.ref xa)]) ⟨rfl, _, _, rfl, E_xa⟩ (rIsL1 l Z a0 hw [] xa xz h0 Oh S_Z hz F_coder_xa) (W := 0) (by decide) hml (Ls := #[rv xa, iv 2]) rfl (rest := []) rfl rfl hby d23_1
  refine oWk.st (fun _ kt => st _ (zF X hx hby d23_4 rfl rfl ((if0 _ _).trans (teq (by decide)).1) (pc' := 16) rfl (zA X hx hby d23_16 rfl rfl rfl kt))) ?_
  obtain ⟨T, X, e0, st⟩ := getF X hx hZ hown (host := "") (Or.inl (oW hw 33 rfl)) Via.refl e0 F_value_xa (g := (mkF m 17 #[rv xa, iv 2] [(.ref xa)])) rfl rfl (hb hby d23_17)
  refine oWk.st (fun _ kt => st _ (zI X hx hby d23_20 rfl rfl kt)) ?_
  obtain ⟨T, L4, X, e0, K, st⟩ := (cs7 hw).pure X hx hZ hown e0 K (A := [(.ref xb), (.int (2 : Int32))]) rfl (rUC_3_2 l Z a0 hw [] xb xk xfm xc0 xc1 xc2 h0 Oh S_A S_H S_L S_F hcat hr V_xb) (W := 0) (by decide) hml (Ls := #[rv xa, iv 2]) rfl (rest := []) rfl rfl hby d23_21
  refine oWk.to (mkF m 24 #[rv xa, iv 2] [(.int xc2)]) (fun _ kt => st _ kt) ?_
  exact oRetN X hx hlk hret (Or.inr (Or.inl rfl)) (show narrow .char (.int xc2) = .int xc2 from congrArg Value.int (oChrU hr)) (hb hby d23_24) (by rw [e0]; exact ⟨rfl, rfl, K⟩) (by decide) (by decide)
theorem rLC_3_2 (l : Launch) (Z : State) (a0 : Array Value) (hw : oHW a0 Z) (ws : List Jvm.Cond) (xb : Addr) (xk : ClassId) (xfm : Value) (xc0 xc1 xc2 : Int32) (h0 : Heap) (O0 : Ext Z.heap h0) (S_F : Sta Z Z.heap Y4 Y5 Y6 xfm) (hcat : xfm.category = 1) (hr : 0 ≤ xc2.toInt ∧ xc2.toInt < 256) (V_xb : Arv Z h0 xb xk .byte (3 : Int32) [(ib xc0), (ib xc1), (ib xc2)] (.int (0 : Int32))) :
    oCon l Z yy10 jdk_43_method_2_code 2 (some .char) ws ({ frames := 2, cells := 0, slots := 0, locals := 27 } : Room) #[(.ref xb), (.int (2 : Int32))] h0 (oPq (some (.int xc2)) h0) := by
  refine oCon.of (plainFor_of_name pn_3) ?_
  intro p e s m below meth c T X hx hby hml hown hnm hret hlk hZ e0
  have hml : c.maxLocals = 2 := hml
  have K : oKp h0 h0 [] [] := oKp.nil _ _
  refine oWk.cast (g' := (mkF m 0 #[rv xb, iv 2] [])) (by first | rfl | (simp [entryFrame, mkF, argsToLocals, Value.category]; done)) ?_
  refine oWk.st (fun _ kt => zI X hx hby d31_0 rfl rfl (zA X hx hby d31_1 rfl rfl rfl (oAl X hx hZ e0 V_xb hby d31_2 rfl rfl kt))) ?_
  have Oh := K.old O0 all0
  obtain ⟨T, L3, X, e0, K, st⟩ := (cs8 hw).pure X hx hZ hown e0 K (A := [(.int (2 : Int32)), (.int (3 : Int32))]) rfl (rCkI l Z a0 hw [] (2 : Int32) (3 : Int32) xfm h0 Oh S_F hcat (by decide) (by decide)) (W := 0) (by decide) hml (Ls := #[rv xb, iv 2]) rfl (rest := []) rfl rfl hby d31_3
  refine oWk.to (mkF m 14 #[rv xb, iv 2] [(.int (((xc2.toInt8.toInt32) &&& (255 : Int32)).toUInt32.toUInt16.toUInt32.toInt32))]) (fun _ kt => st _ (zA X hx hby d31_6 rfl rfl rfl (zI X hx hby d31_7 rfl rfl (oLdB X hx hZ e0 V_xb (2 : Int32) (ib xc2) ⟨by decide, by decide⟩ rfl hby d31_8 rfl rfl (zM X hx hby d31_9 rfl (XS.iand X.here hx rfl (hb hby d31_12) rfl (XS.i2c X.here hx rfl (hb hby d31_13) rfl kt))))))) ?_
  rw [oBk hr]
  show oWk _ _ _ _ T (mkF m 14 #[rv xb, iv 2] [(.int xc2)])
  exact oRetN X hx hlk hret (Or.inr (Or.inl rfl)) (show narrow .char (.int xc2) = .int xc2 from congrArg Value.int (oChr hr)) (hb hby d31_14) (by rw [e0]; exact ⟨rfl, rfl, K⟩) (by decide) (by decide)
theorem rCA_3_2 (l : Launch) (Z : State) (a0 : Array Value) (hw : oHW a0 Z) (ws : List Jvm.Cond) (xa xb : Addr) (xk : ClassId) (xfm : Value) (xz xc0 xc1 xc2 : Int32) (h0 : Heap) (O0 : Ext Z.heap h0) (S_Z : Sta Z Z.heap Y0 Y2 "Z" (.int xz)) (hz : ¬ xz = (0 : Int32)) (S_F : Sta Z Z.heap Y4 Y5 Y6 xfm) (hcat : xfm.category = 1) (hr : 0 ≤ xc2.toInt ∧ xc2.toInt < 256) (E_xa : Exa Z h0 xa Y0) (F_coder_xa : Fld Z h0 xa Y0 "coder" "B" (.int (0 : Int32))) (F_value_xa : Fld Z h0 xa Y0 "value" "[B" (.ref xb)) (V_xb : Arv Z h0 xb xk .byte (3 : Int32) [(ib xc0), (ib xc1), (ib xc2)] (.int (0 : Int32))) :
    oCon l Z yy9 jdk_42_method_56_code 2 (some .char) ws ({ frames := 4, cells := 0, slots := 0, locals := 53 } : Room) #[(.ref xa), (.int (2 : Int32))] h0 (oPq (some (.int xc2)) h0) := by
  refine oCon.of (plainFor_of_name pn_0) ?_
  intro p e s m below meth c T X hx hby hml hown hnm hret hlk hZ e0
  have hml : c.maxLocals = 2 := hml
  have K : oKp h0 h0 [] [] := oKp.nil _ _
  refine oWk.cast (g' := (mkF m 0 #[rv xa, iv 2] [])) (by first | rfl | (simp [entryFrame, mkF, argsToLocals, Value.category]; done)) ?_
  refine oWk.st (fun _ kt => zA X hx hby d23_0 rfl rfl rfl kt) ?_
  have Oh := K.old O0 all0
  obtain ⟨T, L2, X, e0, K, st⟩ := (cs6 hw).pure X hx hZ hown e0 K (A := [(.ref xa)]) ⟨rfl, _, _, rfl, E_xa⟩ (rIsL l Z a0 hw [] xa xz h0 Oh S_Z hz F_coder_xa) (W := 0) (by decide) hml (Ls := #[rv xa, iv 2]) rfl (rest := []) rfl rfl hby d23_1
  refine oWk.st (fun _ kt => st _ (zH X hx hby d23_4 rfl rfl ((if0 _ _).trans (feq (by decide)).1) (zA X hx hby d23_7 rfl rfl rfl kt))) ?_
  obtain ⟨T, X, e0, st⟩ := getF X hx hZ hown (host := "") (Or.inl (oW hw 33 rfl)) Via.refl e0 F_value_xa (g := (mkF m 8 #[rv xa, iv 2] [(.ref xa)])) rfl rfl (hb hby d23_8)
  refine oWk.st (fun _ kt => st _ (zI X hx hby d23_11 rfl rfl kt)) ?_
  obtain ⟨T, L4, X, e0, K, st⟩ := (cs9 hw).pure X hx hZ hown e0 K (A := [(.ref xb), (.int (2 : Int32))]) rfl (rLC_3_2 l Z a0 hw [] xb xk xfm xc0 xc1 xc2 h0 Oh S_F hcat hr V_xb) (W := 0) (by decide) hml (Ls := #[rv xa, iv 2]) rfl (rest := []) rfl rfl hby d23_12
  refine oWk.to (mkF m 15 #[rv xa, iv 2] [(.int xc2)]) (fun _ kt => st _ kt) ?_
  exact oRetN X hx hlk hret (Or.inr (Or.inl rfl)) (show narrow .char (.int xc2) = .int xc2 from congrArg Value.int (oChr hr)) (hb hby d23_15) (by rw [e0]; exact ⟨rfl, rfl, K⟩) (by decide) (by decide)
theorem rCAT_3_2 (l : Launch) (Z : State) (a0 : Array Value) (hw : oHW a0 Z) (ws : List Jvm.Cond) (xa : Addr) (xfm : Value) (xz xc0 xc1 xc2 : Int32) (h0 : Heap) (O0 : Ext Z.heap h0) (S_Z : Sta Z Z.heap Y0 Y2 "Z" (.int xz)) (hz : ¬ xz = (0 : Int32)) (S_A : Sta Z Z.heap Y1 Y3 "Z" (.int (1 : Int32))) (S_H : Sta Z Z.heap Y1 "HI_BYTE_SHIFT" "I" (.int (0 : Int32))) (S_L : Sta Z Z.heap Y1 "LO_BYTE_SHIFT" "I" (.int (8 : Int32))) (S_F : Sta Z Z.heap Y4 Y5 Y6 xfm) (hcat : xfm.category = 1) (T_xa : oTx Z h0 xa [xc0, xc1, xc2]) :
    oCon l Z yy9 jdk_42_method_56_code 2 (some .char) ws ({ frames := 4, cells := 0, slots := 0, locals := 53 } : Room) #[(.ref xa), (.int (2 : Int32))] h0 (oPq (some (.int xc2)) h0) := by
  obtain ⟨b, k, E, V, ⟨C, A, R⟩ | ⟨C, A, R⟩⟩ := T_xa
  · exact rCA_3_2 l Z a0 hw ws xa b k xfm xz xc0 xc1 xc2 h0 O0 S_Z hz S_F hcat (R _ (List.mem_of_getElem? (i := 2) rfl)) E C V A
  · exact rCAU_3_2 l Z a0 hw ws xa b k xfm xz xc0 xc1 xc2 h0 O0 S_Z hz S_A S_H S_L S_F hcat (R _ (List.mem_of_getElem? (i := 2) rfl)) E C V A
theorem rLnU_4 (l : Launch) (Z : State) (a0 : Array Value) (hw : oHW a0 Z) (ws : List Jvm.Cond) (xa xb : Addr) (xk : ClassId) (xz xc0 xc1 xc2 xc3 : Int32) (h0 : Heap) (O0 : Ext Z.heap h0) (S_Z : Sta Z Z.heap Y0 Y2 "Z" (.int xz)) (hz : ¬ xz = (0 : Int32)) (E_xa : Exa Z h0 xa Y0) (F_coder_xa : Fld Z h0 xa Y0 "coder" "B" (.int (1 : Int32))) (F_value_xa : Fld Z h0 xa Y0 "value" "[B" (.ref xb)) (V_xb : Arv Z h0 xb xk .byte (8 : Int32) [(iu0 xc0), (iu8 xc0), (iu0 xc1), (iu8 xc1), (iu0 xc2), (iu8 xc2), (iu0 xc3), (iu8 xc3)] (.int (0 : Int32))) :
    oCon l Z yy2 jdk_42_method_54_code 1 (some .int) ws ({ frames := 1, cells := 0, slots := 0, locals := 13 } : Room) #[(.ref xa)] h0 (oPq (some (.int (4 : Int32))) h0) := by
  refine oCon.of (plainFor_of_name pn_0) ?_
  intro p e s m below meth c T X hx hby hml hown hnm hret hlk hZ e0
  have hml : c.maxLocals = 1 := hml
  have K : oKp h0 h0 [] [] := oKp.nil _ _
  refine oWk.cast (g' := (mkF m 0 #[rv xa] [])) (by first | rfl | (simp [entryFrame, mkF, argsToLocals, Value.category]; done)) ?_
  refine oWk.st (fun _ kt => zA X hx hby d8_0 rfl rfl rfl kt) ?_
  obtain ⟨T, X, e0, st⟩ := getF X hx hZ hown (host := "") (Or.inl (oW hw 33 rfl)) Via.refl e0 F_value_xa (g := (mkF m 1 #[rv xa] [(.ref xa)])) rfl rfl (hb hby d8_1)
  refine oWk.st (fun _ kt => st _ (oAl X hx hZ e0 V_xb hby d8_4 rfl rfl (zA X hx hby d8_5 rfl rfl rfl kt))) ?_
  have Oh := K.old O0 all0
  obtain ⟨T, L3, X, e0, K, st⟩ := (cs0 hw).pure X hx hZ hown e0 K (A := [(.ref xa)]) ⟨rfl, _, _, rfl, E_xa⟩ (rCdr1 l Z a0 hw [] xa xz h0 Oh S_Z hz F_coder_xa) (W := 1) (by decide) hml (Ls := #[rv xa]) rfl (rest := [(.int (8 : Int32))]) rfl rfl hby d8_6
  refine oWk.to (mkF m 10 #[rv xa] [(.int 4)]) (fun _ kt => st _ (XS.ishr X.here hx rfl (hb hby d8_9) rfl kt)) ?_
  exact oRetI X hx hlk hret (hb hby d8_10) (by rw [e0]; exact ⟨rfl, rfl, K⟩) (by decide) (by decide)
theorem rLn_4 (l : Launch) (Z : State) (a0 : Array Value) (hw : oHW a0 Z) (ws : List Jvm.Cond) (xa xb : Addr) (xk : ClassId) (xz xc0 xc1 xc2 xc3 : Int32) (h0 : Heap) (O0 : Ext Z.heap h0) (S_Z : Sta Z Z.heap Y0 Y2 "Z" (.int xz)) (hz : ¬ xz = (0 : Int32)) (E_xa : Exa Z h0 xa Y0) (F_coder_xa : Fld Z h0 xa Y0 "coder" "B" (.int (0 : Int32))) (F_value_xa : Fld Z h0 xa Y0 "value" "[B" (.ref xb)) (V_xb : Arv Z h0 xb xk .byte (4 : Int32) [(ib xc0), (ib xc1), (ib xc2), (ib xc3)] (.int (0 : Int32))) :
    oCon l Z yy2 jdk_42_method_54_code 1 (some .int) ws ({ frames := 1, cells := 0, slots := 0, locals := 13 } : Room) #[(.ref xa)] h0 (oPq (some (.int (4 : Int32))) h0) := by
  refine oCon.of (plainFor_of_name pn_0) ?_
  intro p e s m below meth c T X hx hby hml hown hnm hret hlk hZ e0
  have hml : c.maxLocals = 1 := hml
  have K : oKp h0 h0 [] [] := oKp.nil _ _
  refine oWk.cast (g' := (mkF m 0 #[rv xa] [])) (by first | rfl | (simp [entryFrame, mkF, argsToLocals, Value.category]; done)) ?_
  refine oWk.st (fun _ kt => zA X hx hby d8_0 rfl rfl rfl kt) ?_
  obtain ⟨T, X, e0, st⟩ := getF X hx hZ hown (host := "") (Or.inl (oW hw 33 rfl)) Via.refl e0 F_value_xa (g := (mkF m 1 #[rv xa] [(.ref xa)])) rfl rfl (hb hby d8_1)
  refine oWk.st (fun _ kt => st _ (oAl X hx hZ e0 V_xb hby d8_4 rfl rfl (zA X hx hby d8_5 rfl rfl rfl kt))) ?_
  have Oh := K.old O0 all0
  obtain ⟨T, L3, X, e0, K, st⟩ := (cs0 hw).pure X hx hZ hown e0 K (A := [(.ref xa)]) ⟨rfl, _, _, rfl, E_xa⟩ (rCdr l Z a0 hw [] xa xz h0 Oh S_Z hz F_coder_xa) (W := 1) (by decide) hml (Ls := #[rv xa]) rfl (rest := [(.int (4 : Int32))]) rfl rfl hby d8_6
  refine oWk.to (mkF m 10 #[rv xa] [(.int 4)]) (fun _ kt => st _ (XS.ishr X.here hx rfl (hb hby d8_9) rfl kt)) ?_
  exact oRetI X hx hlk hret (hb hby d8_10) (by rw [e0]; exact ⟨rfl, rfl, K⟩) (by decide) (by decide)
theorem rLnT_4 (l : Launch) (Z : State) (a0 : Array Value) (hw : oHW a0 Z) (ws : List Jvm.Cond) (xa : Addr) (xz xc0 xc1 xc2 xc3 : Int32) (h0 : Heap) (O0 : Ext Z.heap h0) (S_Z : Sta Z Z.heap Y0 Y2 "Z" (.int xz)) (hz : ¬ xz = (0 : Int32)) (T_xa : oTx Z h0 xa [xc0, xc1, xc2, xc3]) :
    oCon l Z yy2 jdk_42_method_54_code 1 (some .int) ws ({ frames := 1, cells := 0, slots := 0, locals := 13 } : Room) #[(.ref xa)] h0 (oPq (some (.int (4 : Int32))) h0) := by
  obtain ⟨b, k, E, V, ⟨C, A, R⟩ | ⟨C, A, R⟩⟩ := T_xa
  · exact rLn_4 l Z a0 hw ws xa b k xz xc0 xc1 xc2 xc3 h0 O0 S_Z hz E C V A
  · exact rLnU_4 l Z a0 hw ws xa b k xz xc0 xc1 xc2 xc3 h0 O0 S_Z hz E C V A
theorem rUL_4 (l : Launch) (Z : State) (a0 : Array Value) (hw : oHW a0 Z) (ws : List Jvm.Cond) (xb : Addr) (xk : ClassId) (xc0 xc1 xc2 xc3 : Int32) (h0 : Heap) (O0 : Ext Z.heap h0) (V_xb : Arv Z h0 xb xk .byte (8 : Int32) [(iu0 xc0), (iu8 xc0), (iu0 xc1), (iu8 xc1), (iu0 xc2), (iu8 xc2), (iu0 xc3), (iu8 xc3)] (.int (0 : Int32))) :
    oCon l Z yy5 jdk_52_method_6_code 1 (some .int) ws ({ frames := 0, cells := 0, slots := 0, locals := 0 } : Room) #[(.ref xb)] h0 (oPq (some (.int (4 : Int32))) h0) := by
  refine oCon.of (plainFor_of_name pn_2) ?_
  intro p e s m below meth c T X hx hby hml hown hnm hret hlk hZ e0
  have hml : c.maxLocals = 1 := hml
  have K : oKp h0 h0 [] [] := oKp.nil _ _
  refine oWk.cast (g' := (mkF m 0 #[rv xb] [])) (by first | rfl | (simp [entryFrame, mkF, argsToLocals, Value.category]; done)) ?_
  refine oWk.to (mkF m 4 #[rv xb] [(.int 4)]) (fun _ kt => zA X hx hby d27_0 rfl rfl rfl (oAl X hx hZ e0 V_xb hby d27_1 rfl rfl (zK X hx hby d27_2 rfl (XS.ishr X.here hx rfl (hb hby d27_3) rfl kt)))) ?_
  exact oRetI X hx hlk hret (hb hby d27_4) (by rw [e0]; exact ⟨rfl, rfl, K⟩) (by decide) (by decide)
theorem rUCk_4_0 (l : Launch) (Z : State) (a0 : Array Value) (hw : oHW a0 Z) (ws : List Jvm.Cond) (xb : Addr) (xk : ClassId) (xfm : Value) (xc0 xc1 xc2 xc3 : Int32) (h0 : Heap) (O0 : Ext Z.heap h0) (S_F : Sta Z Z.heap Y4 Y5 Y6 xfm) (hcat : xfm.category = 1) (V_xb : Arv Z h0 xb xk .byte (8 : Int32) [(iu0 xc0), (iu8 xc0), (iu0 xc1), (iu8 xc1), (iu0 xc2), (iu8 xc2), (iu0 xc3), (iu8 xc3)] (.int (0 : Int32))) :
    oCon l Z yy6 jdk_52_method_91_code 2 none ws ({ frames := 2, cells := 0, slots := 0, locals := 27 } : Room) #[(.int (0 : Int32)), (.ref xb)] h0 (oPq none h0) := by
  refine oCon.of (plainFor_of_name pn_2) ?_
  intro p e s m below meth c T X hx hby hml hown hnm hret hlk hZ e0
  have hml : c.maxLocals = 2 := hml
  have K : oKp h0 h0 [] [] := oKp.nil _ _
  refine oWk.cast (g' := (mkF m 0 #[iv 0, rv xb] [])) (by first | rfl | (simp [entryFrame, mkF, argsToLocals, Value.category]; done)) ?_
  refine oWk.st (fun _ kt => zI X hx hby d26_0 rfl rfl (zA X hx hby d26_1 rfl rfl rfl kt)) ?_
  have Oh := K.old O0 all0
  obtain ⟨T, L2, X, e0, K, st⟩ := (cs2 hw).pure X hx hZ hown e0 K (A := [(.ref xb)]) rfl (rUL_4 l Z a0 hw [] xb xk xc0 xc1 xc2 xc3 h0 Oh V_xb) (W := 1) (by decide) hml (Ls := #[iv 0, rv xb]) rfl (rest := [(.int (0 : Int32))]) rfl rfl hby d26_2
  refine oWk.st (fun _ kt => st _ kt) ?_
  obtain ⟨T, L4, X, e0, K, st⟩ := (cs3 hw).pure X hx hZ hown e0 K (A := [(.int (0 : Int32)), (.int (4 : Int32))]) rfl (rCkI l Z a0 hw [] (0 : Int32) (4 : Int32) xfm h0 Oh S_F hcat (by decide) (by decide)) (W := 0) (by decide) hml (Ls := #[iv 0, rv xb]) rfl (rest := []) rfl rfl hby d26_5
  refine oWk.to (mkF m 8 #[iv 0, rv xb] []) (fun _ kt => st _ kt) ?_
  exact oRetV X hx hlk hret (hb hby d26_8) (by rw [e0]; exact ⟨rfl, rfl, K⟩) (by decide) (by decide)
theorem rGC_4_0 (l : Launch) (Z : State) (a0 : Array Value) (hw : oHW a0 Z) (ws : List Jvm.Cond) (xb : Addr) (xk : ClassId) (xc0 xc1 xc2 xc3 : Int32) (h0 : Heap) (O0 : Ext Z.heap h0) (S_A : Sta Z Z.heap Y1 Y3 "Z" (.int (1 : Int32))) (S_H : Sta Z Z.heap Y1 "HI_BYTE_SHIFT" "I" (.int (0 : Int32))) (S_L : Sta Z Z.heap Y1 "LO_BYTE_SHIFT" "I" (.int (8 : Int32))) (hr : 0 ≤ xc0.toInt ∧ xc0.toInt < 65536) (V_xb : Arv Z h0 xb xk .byte (8 : Int32) [(iu0 xc0), (iu8 xc0), (iu0 xc1), (iu8 xc1), (iu0 xc2), (iu8 xc2), (iu0 xc3), (iu8 xc3)] (.int (0 : Int32))) :
    oCon l Z yy7 jdk_52_method_5_code 2 (some .char) ws ({ frames := 0, cells := 0, slots := 0, locals := 0 } : Room) #[(.ref xb), (.int (0 : Int32))] h0 (oPq (some (.int xc0)) h0) := by
  refine oCon.of (plainFor_of_name pn_2) ?_
  intro p e s m below meth c T X hx hby hml hown hnm hret hlk hZ e0
  have hml : c.maxLocals = 2 := hml
  have K : oKp h0 h0 [] [] := oKp.nil _ _
  refine oWk.cast (g' := (mkF m 0 #[rv xb, iv 0] [])) (by first | rfl | (simp [entryFrame, mkF, argsToLocals, Value.category]; done)) ?_
  have Oh := K.old O0 all0
  obtain ⟨T, X, e0, st⟩ := getS2 X hx hZ hown (host := "") (Or.inl (oW hw 93 rfl)) Via.refl e0 (S_A.ext Oh) (g := (mkF m 0 #[rv xb, iv 0] [])) rfl (hb hby d22_0)
  refine oWk.to (mkF m 33 #[rv xb, iv 0] [(.ref xb)]) (fun _ kt => st _ (zF X hx hby d22_3 rfl rfl ((if0 _ _).trans (feq (by decide)).2) (pc' := 28) rfl (zI X hx hby d22_28 rfl rfl (zK X hx hby d22_29 rfl (XS.ishl X.here hx rfl (hb hby d22_30) rfl (zSn X hx hby d22_31 rfl rfl (l' := #[rv xb, iv 0]) rfl (zA X hx hby d22_32 rfl rfl rfl kt))))))) ?_
  refine oWk.st (fun _ kt => zI X hx hby d22_33 rfl rfl (zC X hx hby d22_34 rfl rfl (l' := #[rv xb, iv ((0 : Int32) + (1 : Int32))]) rfl (oLdB X hx hZ e0 V_xb (0 : Int32) (iu0 xc0) ⟨by decide, by decide⟩ rfl hby d22_37 rfl rfl (zM X hx hby d22_38 rfl (XS.iand X.here hx rfl (hb hby d22_41) rfl kt))))) ?_
  obtain ⟨T, X, e0, st⟩ := getS2 X hx hZ hown (host := "") (Or.inl (oW hw 94 rfl)) Via.refl e0 (S_H.ext Oh) (g := (mkF m 42 #[rv xb, iv 1] [(.int (((xc0 >>> ((0 : Int32) &&& 31)).toInt8.toInt32) &&& (255 : Int32)))])) rfl (hb hby d22_42)
  refine oWk.to (mkF m 53 #[rv xb, iv 1] [(.int (((xc0 >>> ((8 : Int32) &&& 31)).toInt8.toInt32) &&& (255 : Int32))), (.int ((((xc0 >>> ((0 : Int32) &&& 31)).toInt8.toInt32) &&& (255 : Int32)) <<< ((0 : Int32) &&& 31)))]) (fun _ kt => st _ (XS.ishl X.here hx rfl (hb hby d22_45) rfl (zA X hx hby d22_46 rfl rfl rfl (zI X hx hby d22_47 rfl rfl (oLdB X hx hZ e0 V_xb (1 : Int32) (iu8 xc0) ⟨by decide, by decide⟩ rfl hby d22_48 rfl rfl (zM X hx hby d22_49 rfl (XS.iand X.here hx rfl (hb hby d22_52) rfl kt))))))) ?_
  obtain ⟨T, X, e0, st⟩ := getS2 X hx hZ hown (host := "") (Or.inl (oW hw 95 rfl)) Via.refl e0 (S_L.ext Oh) (g := (mkF m 53 #[rv xb, iv 1] [(.int (((xc0 >>> ((8 : Int32) &&& 31)).toInt8.toInt32) &&& (255 : Int32))), (.int ((((xc0 >>> ((0 : Int32) &&& 31)).toInt8.toInt32) &&& (255 : Int32)) <<< ((0 : Int32) &&& 31)))])) rfl (hb hby d22_53)
  refine oWk.to (mkF m 59 #[rv xb, iv 1] [(.int ((((((xc0 >>> ((0 : Int32) &&& 31)).toInt8.toInt32) &&& (255 : Int32)) <<< ((0 : Int32) &&& 31)) ||| ((((xc0 >>> ((8 : Int32) &&& 31)).toInt8.toInt32) &&& (255 : Int32)) <<< ((8 : Int32) &&& 31))).toUInt32.toUInt16.toUInt32.toInt32))]) (fun _ kt => st _ (XS.ishl X.here hx rfl (hb hby d22_56) rfl (XS.ior X.here hx rfl (hb hby d22_57) rfl (XS.i2c X.here hx rfl (hb hby d22_58) rfl kt)))) ?_
  show oWk _ _ _ _ T (mkF m 59 #[rv xb, iv 1] [(.int ((((((xc0 >>> ((0 : Int32) &&& 31)).toInt8.toInt32) &&& (255 : Int32)) <<< ((0 : Int32) &&& 31)) ||| ((((xc0 >>> ((8 : Int32) &&& 31)).toInt8.toInt32) &&& (255 : Int32)) <<< ((8 : Int32) &&& 31))).toUInt32.toUInt16.toUInt32.toInt32))])
  rw [oU16 hr]
  show oWk _ _ _ _ T (mkF m 59 #[rv xb, iv 1] [(.int xc0)])
  exact oRetN X hx hlk hret (Or.inr (Or.inl rfl)) (show narrow .char (.int xc0) = .int xc0 from congrArg Value.int (oChrU hr)) (hb hby d22_59) (by rw [e0]; exact ⟨rfl, rfl, K⟩) (by decide) (by decide)
theorem rUC_4_0 (l : Launch) (Z : State) (a0 : Array Value) (hw : oHW a0 Z) (ws : List Jvm.Cond) (xb : Addr) (xk : ClassId) (xfm : Value) (xc0 xc1 xc2 xc3 : Int32) (h0 : Heap) (O0 : Ext Z.heap h0) (S_A : Sta Z Z.heap Y1 Y3 "Z" (.int (1 : Int32))) (S_H : Sta Z Z.heap Y1 "HI_BYTE_SHIFT" "I" (.int (0 : Int32))) (S_L : Sta Z Z.heap Y1 "LO_BYTE_SHIFT" "I" (.int (8 : Int32))) (S_F : Sta Z Z.heap Y4 Y5 Y6 xfm) (hcat : xfm.category = 1) (hr : 0 ≤ xc0.toInt ∧ xc0.toInt < 65536) (V_xb : Arv Z h0 xb xk .byte (8 : Int32) [(iu0 xc0), (iu8 xc0), (iu0 xc1), (iu8 xc1), (iu0 xc2), (iu8 xc2), (iu0 xc3), (iu8 xc3)] (.int (0 : Int32))) :
    oCon l Z yy8 jdk_52_method_83_code 2 (some .char) ws ({ frames := 3, cells := 0, slots := 0, locals := 40 } : Room) #[(.ref xb), (.int (0 : Int32))] h0 (oPq (some (.int xc0)) h0) := by
  refine oCon.of (plainFor_of_name pn_2) ?_
  intro p e s m below meth c T X hx hby hml hown hnm hret hlk hZ e0
  have hml : c.maxLocals = 2 := hml
  have K : oKp h0 h0 [] [] := oKp.nil _ _
  refine oWk.cast (g' := (mkF m 0 #[rv xb, iv 0] [])) (by first | rfl | (simp [entryFrame, mkF, argsToLocals, Value.category]; done)) ?_
  refine oWk.st (fun _ kt => zI X hx hby d25_0 rfl rfl (zA X hx hby d25_1 rfl rfl rfl kt)) ?_
  have Oh := K.old O0 all0
  obtain ⟨T, L2, X, e0, K, st⟩ := (cs4 hw).pure X hx hZ hown e0 K (A := [(.int (0 : Int32)), (.ref xb)]) rfl (rUCk_4_0 l Z a0 hw [] xb xk xfm xc0 xc1 xc2 xc3 h0 Oh S_F hcat V_xb) (W := 0) (by decide) hml (Ls := #[rv xb, iv 0]) rfl (rest := []) rfl rfl hby d25_2
  refine oWk.st (fun _ kt => st _ (zA X hx hby d25_5 rfl rfl rfl (zI X hx hby d25_6 rfl rfl kt))) ?_
  obtain ⟨T, L4, X, e0, K, st⟩ := (cs5 hw).pure X hx hZ hown e0 K (A := [(.ref xb), (.int (0 : Int32))]) rfl (rGC_4_0 l Z a0 hw [] xb xk xc0 xc1 xc2 xc3 h0 Oh S_A S_H S_L hr V_xb) (W := 0) (by decide) hml (Ls := #[rv xb, iv 0]) rfl (rest := []) rfl rfl hby d25_7
  refine oWk.to (mkF m 10 #[rv xb, iv 0] [(.int xc0)]) (fun _ kt => st _ kt) ?_
  exact oRetN X hx hlk hret (Or.inr (Or.inl rfl)) (show narrow .char (.int xc0) = .int xc0 from congrArg Value.int (oChrU hr)) (hb hby d25_10) (by rw [e0]; exact ⟨rfl, rfl, K⟩) (by decide) (by decide)
theorem rCAU_4_0 (l : Launch) (Z : State) (a0 : Array Value) (hw : oHW a0 Z) (ws : List Jvm.Cond) (xa xb : Addr) (xk : ClassId) (xfm : Value) (xz xc0 xc1 xc2 xc3 : Int32) (h0 : Heap) (O0 : Ext Z.heap h0) (S_Z : Sta Z Z.heap Y0 Y2 "Z" (.int xz)) (hz : ¬ xz = (0 : Int32)) (S_A : Sta Z Z.heap Y1 Y3 "Z" (.int (1 : Int32))) (S_H : Sta Z Z.heap Y1 "HI_BYTE_SHIFT" "I" (.int (0 : Int32))) (S_L : Sta Z Z.heap Y1 "LO_BYTE_SHIFT" "I" (.int (8 : Int32))) (S_F : Sta Z Z.heap Y4 Y5 Y6 xfm) (hcat : xfm.category = 1) (hr : 0 ≤ xc0.toInt ∧ xc0.toInt < 65536) (E_xa : Exa Z h0 xa Y0) (F_coder_xa : Fld Z h0 xa Y0 "coder" "B" (.int (1 : Int32))) (F_value_xa : Fld Z h0 xa Y0 "value" "[B" (.ref xb)) (V_xb : Arv Z h0 xb xk .byte (8 : Int32) [(iu0 xc0), (iu8 xc0), (iu0 xc1), (iu8 xc1), (iu0 xc2), (iu8 xc2), (iu0 xc3), (iu8 xc3)] (.int (0 : Int32))) :
    oCon l Z yy9 jdk_42_method_56_code 2 (some .char) ws ({ frames := 4, cells := 0, slots := 0, locals := 53 } : Room) #[(.ref xa), (.int (0 : Int32))] h0 (oPq (some (.int xc0)) h0) := by
  refine oCon.of (plainFor_of_name pn_0) ?_
  intro p e s m below meth c T X hx hby hml hown hnm hret hlk hZ e0
  have hml : c.maxLocals = 2 := hml
  have K : oKp h0 h0 [] [] := oKp.nil _ _
  refine oWk.cast (g' := (mkF m 0 #[rv xa, iv 0] [])) (by first | rfl | (simp [entryFrame, mkF, argsToLocals, Value.category]; done)) ?_
  refine oWk.st (fun _ kt => zA X hx hby d23_0 rfl rfl rfl kt) ?_
  have Oh := K.old O0 all0
  obtain ⟨T, L2, X, e0, K, st⟩ := (cs6 hw).pure X hx hZ hown e0 K (A := [(.ref xa)]) ⟨rfl, _, _, rfl, E_xa⟩ (rIsL1 l Z a0 hw [] xa xz h0 Oh S_Z hz F_coder_xa) (W := 0) (by decide) hml (Ls := #[rv xa, iv 0]) rfl (rest := []) rfl rfl hby d23_1
  refine oWk.st (fun _ kt => st _ (zF X hx hby d23_4 rfl rfl ((if0 _ _).trans (teq (by decide)).1) (pc' := 16) rfl (zA X hx hby d23_16 rfl rfl rfl kt))) ?_
  obtain ⟨T, X, e0, st⟩ := getF X hx hZ hown (host := "") (Or.inl (oW hw 33 rfl)) Via.refl e0 F_value_xa (g := (mkF m 17 #[rv xa, iv 0] [(.ref xa)])) rfl rfl (hb hby d23_17)
  refine oWk.st (fun _ kt => st _ (zI X hx hby d23_20 rfl rfl kt)) ?_
  obtain ⟨T, L4, X, e0, K, st⟩ := (cs7 hw).pure X hx hZ hown e0 K (A := [(.ref xb), (.int (0 : Int32))]) rfl (rUC_4_0 l Z a0 hw [] xb xk xfm xc0 xc1 xc2 xc3 h0 Oh S_A S_H S_L S_F hcat hr V_xb) (W := 0) (by decide) hml (Ls := #[rv xa, iv 0]) rfl (rest := []) rfl rfl hby d23_21
  refine oWk.to (mkF m 24 #[rv xa, iv 0] [(.int xc0)]) (fun _ kt => st _ kt) ?_
  exact oRetN X hx hlk hret (Or.inr (Or.inl rfl)) (show narrow .char (.int xc0) = .int xc0 from congrArg Value.int (oChrU hr)) (hb hby d23_24) (by rw [e0]; exact ⟨rfl, rfl, K⟩) (by decide) (by decide)
theorem rLC_4_0 (l : Launch) (Z : State) (a0 : Array Value) (hw : oHW a0 Z) (ws : List Jvm.Cond) (xb : Addr) (xk : ClassId) (xfm : Value) (xc0 xc1 xc2 xc3 : Int32) (h0 : Heap) (O0 : Ext Z.heap h0) (S_F : Sta Z Z.heap Y4 Y5 Y6 xfm) (hcat : xfm.category = 1) (hr : 0 ≤ xc0.toInt ∧ xc0.toInt < 256) (V_xb : Arv Z h0 xb xk .byte (4 : Int32) [(ib xc0), (ib xc1), (ib xc2), (ib xc3)] (.int (0 : Int32))) :
    oCon l Z yy10 jdk_43_method_2_code 2 (some .char) ws ({ frames := 2, cells := 0, slots := 0, locals := 27 } : Room) #[(.ref xb), (.int (0 : Int32))] h0 (oPq (some (.int xc0)) h0) := by
  refine oCon.of (plainFor_of_name pn_3) ?_
  intro p e s m below meth c T X hx hby hml hown hnm hret hlk hZ e0
  have hml : c.maxLocals = 2 := hml
  have K : oKp h0 h0 [] [] := oKp.nil _ _
  refine oWk.cast (g' := (mkF m 0 #[rv xb, iv 0] [])) (by first | rfl | (simp [entryFrame, mkF, argsToLocals, Value.category]; done)) ?_
  refine oWk.st (fun _ kt => zI X hx hby d31_0 rfl rfl (zA X hx hby d31_1 rfl rfl rfl (oAl X hx hZ e0 V_xb hby d31_2 rfl rfl kt))) ?_
  have Oh := K.old O0 all0
  obtain ⟨T, L3, X, e0, K, st⟩ := (cs8 hw).pure X hx hZ hown e0 K (A := [(.int (0 : Int32)), (.int (4 : Int32))]) rfl (rCkI l Z a0 hw [] (0 : Int32) (4 : Int32) xfm h0 Oh S_F hcat (by decide) (by decide)) (W := 0) (by decide) hml (Ls := #[rv xb, iv 0]) rfl (rest := []) rfl rfl hby d31_3
  refine oWk.to (mkF m 14 #[rv xb, iv 0] [(.int (((xc0.toInt8.toInt32) &&& (255 : Int32)).toUInt32.toUInt16.toUInt32.toInt32))]) (fun _ kt => st _ (zA X hx hby d31_6 rfl rfl rfl (zI X hx hby d31_7 rfl rfl (oLdB X hx hZ e0 V_xb (0 : Int32) (ib xc0) ⟨by decide, by decide⟩ rfl hby d31_8 rfl rfl (zM X hx hby d31_9 rfl (XS.iand X.here hx rfl (hb hby d31_12) rfl (XS.i2c X.here hx rfl (hb hby d31_13) rfl kt))))))) ?_
  rw [oBk hr]
  show oWk _ _ _ _ T (mkF m 14 #[rv xb, iv 0] [(.int xc0)])
  exact oRetN X hx hlk hret (Or.inr (Or.inl rfl)) (show narrow .char (.int xc0) = .int xc0 from congrArg Value.int (oChr hr)) (hb hby d31_14) (by rw [e0]; exact ⟨rfl, rfl, K⟩) (by decide) (by decide)
theorem rCA_4_0 (l : Launch) (Z : State) (a0 : Array Value) (hw : oHW a0 Z) (ws : List Jvm.Cond) (xa xb : Addr) (xk : ClassId) (xfm : Value) (xz xc0 xc1 xc2 xc3 : Int32) (h0 : Heap) (O0 : Ext Z.heap h0) (S_Z : Sta Z Z.heap Y0 Y2 "Z" (.int xz)) (hz : ¬ xz = (0 : Int32)) (S_F : Sta Z Z.heap Y4 Y5 Y6 xfm) (hcat : xfm.category = 1) (hr : 0 ≤ xc0.toInt ∧ xc0.toInt < 256) (E_xa : Exa Z h0 xa Y0) (F_coder_xa : Fld Z h0 xa Y0 "coder" "B" (.int (0 : Int32))) (F_value_xa : Fld Z h0 xa Y0 "value" "[B" (.ref xb)) (V_xb : Arv Z h0 xb xk .byte (4 : Int32) [(ib xc0), (ib xc1), (ib xc2), (ib xc3)] (.int (0 : Int32))) :
    oCon l Z yy9 jdk_42_method_56_code 2 (some .char) ws ({ frames := 4, cells := 0, slots := 0, locals := 53 } : Room) #[(.ref xa), (.int (0 : Int32))] h0 (oPq (some (.int xc0)) h0) := by
  refine oCon.of (plainFor_of_name pn_0) ?_
  intro p e s m below meth c T X hx hby hml hown hnm hret hlk hZ e0
  have hml : c.maxLocals = 2 := hml
  have K : oKp h0 h0 [] [] := oKp.nil _ _
  refine oWk.cast (g' := (mkF m 0 #[rv xa, iv 0] [])) (by first | rfl | (simp [entryFrame, mkF, argsToLocals, Value.category]; done)) ?_
  refine oWk.st (fun _ kt => zA X hx hby d23_0 rfl rfl rfl kt) ?_
  have Oh := K.old O0 all0
  obtain ⟨T, L2, X, e0, K, st⟩ := (cs6 hw).pure X hx hZ hown e0 K (A := [(.ref xa)]) ⟨rfl, _, _, rfl, E_xa⟩ (rIsL l Z a0 hw [] xa xz h0 Oh S_Z hz F_coder_xa) (W := 0) (by decide) hml (Ls := #[rv xa, iv 0]) rfl (rest := []) rfl rfl hby d23_1
  refine oWk.st (fun _ kt => st _ (zH X hx hby d23_4 rfl rfl ((if0 _ _).trans (feq (by decide)).1) (zA X hx hby d23_7 rfl rfl rfl kt))) ?_
  obtain ⟨T, X, e0, st⟩ := getF X hx hZ hown (host := "") (Or.inl (oW hw 33 rfl)) Via.refl e0 F_value_xa (g := (mkF m 8 #[rv xa, iv 0] [(.ref xa)])) rfl rfl (hb hby d23_8)
  refine oWk.st (fun _ kt => st _ (zI X hx hby d23_11 rfl rfl kt)) ?_
  obtain ⟨T, L4, X, e0, K, st⟩ := (cs9 hw).pure X hx hZ hown e0 K (A := [(.ref xb), (.int (0 : Int32))]) rfl (rLC_4_0 l Z a0 hw [] xb xk xfm xc0 xc1 xc2 xc3 h0 Oh S_F hcat hr V_xb) (W := 0) (by decide) hml (Ls := #[rv xa, iv 0]) rfl (rest := []) rfl rfl hby d23_12
  refine oWk.to (mkF m 15 #[rv xa, iv 0] [(.int xc0)]) (fun _ kt => st _ kt) ?_
  exact oRetN X hx hlk hret (Or.inr (Or.inl rfl)) (show narrow .char (.int xc0) = .int xc0 from congrArg Value.int (oChr hr)) (hb hby d23_15) (by rw [e0]; exact ⟨rfl, rfl, K⟩) (by decide) (by decide)
theorem rCAT_4_0 (l : Launch) (Z : State) (a0 : Array Value) (hw : oHW a0 Z) (ws : List Jvm.Cond) (xa : Addr) (xfm : Value) (xz xc0 xc1 xc2 xc3 : Int32) (h0 : Heap) (O0 : Ext Z.heap h0) (S_Z : Sta Z Z.heap Y0 Y2 "Z" (.int xz)) (hz : ¬ xz = (0 : Int32)) (S_A : Sta Z Z.heap Y1 Y3 "Z" (.int (1 : Int32))) (S_H : Sta Z Z.heap Y1 "HI_BYTE_SHIFT" "I" (.int (0 : Int32))) (S_L : Sta Z Z.heap Y1 "LO_BYTE_SHIFT" "I" (.int (8 : Int32))) (S_F : Sta Z Z.heap Y4 Y5 Y6 xfm) (hcat : xfm.category = 1) (T_xa : oTx Z h0 xa [xc0, xc1, xc2, xc3]) :
    oCon l Z yy9 jdk_42_method_56_code 2 (some .char) ws ({ frames := 4, cells := 0, slots := 0, locals := 53 } : Room) #[(.ref xa), (.int (0 : Int32))] h0 (oPq (some (.int xc0)) h0) := by
  obtain ⟨b, k, E, V, ⟨C, A, R⟩ | ⟨C, A, R⟩⟩ := T_xa
  · exact rCA_4_0 l Z a0 hw ws xa b k xfm xz xc0 xc1 xc2 xc3 h0 O0 S_Z hz S_F hcat (R _ (List.mem_of_getElem? (i := 0) rfl)) E C V A
  · exact rCAU_4_0 l Z a0 hw ws xa b k xfm xz xc0 xc1 xc2 xc3 h0 O0 S_Z hz S_A S_H S_L S_F hcat (R _ (List.mem_of_getElem? (i := 0) rfl)) E C V A
theorem rUCk_4_1 (l : Launch) (Z : State) (a0 : Array Value) (hw : oHW a0 Z) (ws : List Jvm.Cond) (xb : Addr) (xk : ClassId) (xfm : Value) (xc0 xc1 xc2 xc3 : Int32) (h0 : Heap) (O0 : Ext Z.heap h0) (S_F : Sta Z Z.heap Y4 Y5 Y6 xfm) (hcat : xfm.category = 1) (V_xb : Arv Z h0 xb xk .byte (8 : Int32) [(iu0 xc0), (iu8 xc0), (iu0 xc1), (iu8 xc1), (iu0 xc2), (iu8 xc2), (iu0 xc3), (iu8 xc3)] (.int (0 : Int32))) :
    oCon l Z yy6 jdk_52_method_91_code 2 none ws ({ frames := 2, cells := 0, slots := 0, locals := 27 } : Room) #[(.int (1 : Int32)), (.ref xb)] h0 (oPq none h0) := by
  refine oCon.of (plainFor_of_name pn_2) ?_
  intro p e s m below meth c T X hx hby hml hown hnm hret hlk hZ e0
  have hml : c.maxLocals = 2 := hml
  have K : oKp h0 h0 [] [] := oKp.nil _ _
  refine oWk.cast (g' := (mkF m 0 #[iv 1, rv xb] [])) (by first | rfl | (simp [entryFrame, mkF, argsToLocals, Value.category]; done)) ?_
  refine oWk.st (fun _ kt => zI X hx hby d26_0 rfl rfl (zA X hx hby d26_1 rfl rfl rfl kt)) ?_
  have Oh := K.old O0 all0
  obtain ⟨T, L2, X, e0, K, st⟩ := (cs2 hw).pure X hx hZ hown e0 K (A := [(.ref xb)]) rfl (rUL_4 l Z a0 hw [] xb xk xc0 xc1 xc2 xc3 h0 Oh V_xb) (W := 1) (by decide) hml (Ls := #[iv 1, rv xb]) rfl (rest := [(.int (1 : Int32))]) rfl rfl hby d26_2
  refine oWk.st (fun _ kt => st _ kt) ?_
  obtain ⟨T, L4, X, e0, K, st⟩ := (cs3 hw).pure X hx hZ hown e0 K (A := [(.int (1 : Int32)), (.int (4 : Int32))]) rfl (rCkI l Z a0 hw [] (1 : Int32) (4 : Int32) xfm h0 Oh S_F hcat (by decide) (by decide)) (W := 0) (by decide) hml (Ls := #[iv 1, rv xb]) rfl (rest := []) rfl rfl hby d26_5
  refine oWk.to (mkF m 8 #[iv 1, rv xb] []) (fun _ kt => st _ kt) ?_
  exact oRetV X hx hlk hret (hb hby d26_8) (by rw [e0]; exact ⟨rfl, rfl, K⟩) (by decide) (by decide)
theorem rGC_4_1 (l : Launch) (Z : State) (a0 : Array Value) (hw : oHW a0 Z) (ws : List Jvm.Cond) (xb : Addr) (xk : ClassId) (xc0 xc1 xc2 xc3 : Int32) (h0 : Heap) (O0 : Ext Z.heap h0) (S_A : Sta Z Z.heap Y1 Y3 "Z" (.int (1 : Int32))) (S_H : Sta Z Z.heap Y1 "HI_BYTE_SHIFT" "I" (.int (0 : Int32))) (S_L : Sta Z Z.heap Y1 "LO_BYTE_SHIFT" "I" (.int (8 : Int32))) (hr : 0 ≤ xc1.toInt ∧ xc1.toInt < 65536) (V_xb : Arv Z h0 xb xk .byte (8 : Int32) [(iu0 xc0), (iu8 xc0), (iu0 xc1), (iu8 xc1), (iu0 xc2), (iu8 xc2), (iu0 xc3), (iu8 xc3)] (.int (0 : Int32))) :
    oCon l Z yy7 jdk_52_method_5_code 2 (some .char) ws ({ frames := 0, cells := 0, slots := 0, locals := 0 } : Room) #[(.ref xb), (.int (1 : Int32))] h0 (oPq (some (.int xc1)) h0) := by
  refine oCon.of (plainFor_of_name pn_2) ?_
  intro p e s m below meth c T X hx hby hml hown hnm hret hlk hZ e0
  have hml : c.maxLocals = 2 := hml
  have K : oKp h0 h0 [] [] := oKp.nil _ _
  refine oWk.cast (g' := (mkF m 0 #[rv xb, iv 1] [])) (by first | rfl | (simp [entryFrame, mkF, argsToLocals, Value.category]; done)) ?_
  have Oh := K.old O0 all0
  obtain ⟨T, X, e0, st⟩ := getS2 X hx hZ hown (host := "") (Or.inl (oW hw 93 rfl)) Via.refl e0 (S_A.ext Oh) (g := (mkF m 0 #[rv xb, iv 1] [])) rfl (hb hby d22_0)
  refine oWk.to (mkF m 33 #[rv xb, iv 2] [(.ref xb)]) (fun _ kt => st _ (zF X hx hby d22_3 rfl rfl ((if0 _ _).trans (feq (by decide)).2) (pc' := 28) rfl (zI X hx hby d22_28 rfl rfl (zK X hx hby d22_29 rfl (XS.ishl X.here hx rfl (hb hby d22_30) rfl (zSn X hx hby d22_31 rfl rfl (l' := #[rv xb, iv 2]) rfl (zA X hx hby d22_32 rfl rfl rfl kt))))))) ?_
  refine oWk.st (fun _ kt => zI X hx hby d22_33 rfl rfl (zC X hx hby d22_34 rfl rfl (l' := #[rv xb, iv ((2 : Int32) + (1 : Int32))]) rfl (oLdB X hx hZ e0 V_xb (2 : Int32) (iu0 xc1) ⟨by decide, by decide⟩ rfl hby d22_37 rfl rfl (zM X hx hby d22_38 rfl (XS.iand X.here hx rfl (hb hby d22_41) rfl kt))))) ?_
  obtain ⟨T, X, e0, st⟩ := getS2 X hx hZ hown (host := "") (Or.inl (oW hw 94 rfl)) Via.refl e0 (S_H.ext Oh) (g := (mkF m 42 #[rv xb, iv 3] [(.int (((xc1 >>> ((0 : Int32) &&& 31)).toInt8.toInt32) &&& (255 : Int32)))])) rfl (hb hby d22_42)
  refine oWk.to (mkF m 53 #[rv xb, iv 3] [(.int (((xc1 >>> ((8 : Int32) &&& 31)).toInt8.toInt32) &&& (255 : Int32))), (.int ((((xc1 >>> ((0 : Int32) &&& 31)).toInt8.toInt32) &&& (255 : Int32)) <<< ((0 : Int32) &&& 31)))]) (fun _ kt => st _ (XS.ishl X.here hx rfl (hb hby d22_45) rfl (zA X hx hby d22_46 rfl rfl rfl (zI X hx hby d22_47 rfl rfl (oLdB X hx hZ e0 V_xb (3 : Int32) (iu8 xc1) ⟨by decide, by decide⟩ rfl hby d22_48 rfl rfl (zM X hx hby d22_49 rfl (XS.iand X.here hx rfl (hb hby d22_52) rfl kt))))))) ?_
  obtain ⟨T, X, e0, st⟩ := getS2 X hx hZ hown (host := "") (Or.inl (oW hw 95 rfl)) Via.refl e0 (S_L.ext Oh) (g := (mkF m 53 #[rv xb, iv 3] [(.int (((xc1 >>> ((8 : Int32) &&& 31)).toInt8.toInt32) &&& (255 : Int32))), (.int ((((xc1 >>> ((0 : Int32) &&& 31)).toInt8.toInt32) &&& (255 : Int32)) <<< ((0 : Int32) &&& 31)))])) rfl (hb hby d22_53)
  refine oWk.to (mkF m 59 #[rv xb, iv 3] [(.int ((((((xc1 >>> ((0 : Int32) &&& 31)).toInt8.toInt32) &&& (255 : Int32)) <<< ((0 : Int32) &&& 31)) ||| ((((xc1 >>> ((8 : Int32) &&& 31)).toInt8.toInt32) &&& (255 : Int32)) <<< ((8 : Int32) &&& 31))).toUInt32.toUInt16.toUInt32.toInt32))]) (fun _ kt => st _ (XS.ishl X.here hx rfl (hb hby d22_56) rfl (XS.ior X.here hx rfl (hb hby d22_57) rfl (XS.i2c X.here hx rfl (hb hby d22_58) rfl kt)))) ?_
  show oWk _ _ _ _ T (mkF m 59 #[rv xb, iv 3] [(.int ((((((xc1 >>> ((0 : Int32) &&& 31)).toInt8.toInt32) &&& (255 : Int32)) <<< ((0 : Int32) &&& 31)) ||| ((((xc1 >>> ((8 : Int32) &&& 31)).toInt8.toInt32) &&& (255 : Int32)) <<< ((8 : Int32) &&& 31))).toUInt32.toUInt16.toUInt32.toInt32))])
  rw [oU16 hr]
  show oWk _ _ _ _ T (mkF m 59 #[rv xb, iv 3] [(.int xc1)])
  exact oRetN X hx hlk hret (Or.inr (Or.inl rfl)) (show narrow .char (.int xc1) = .int xc1 from congrArg Value.int (oChrU hr)) (hb hby d22_59) (by rw [e0]; exact ⟨rfl, rfl, K⟩) (by decide) (by decide)
theorem rUC_4_1 (l : Launch) (Z : State) (a0 : Array Value) (hw : oHW a0 Z) (ws : List Jvm.Cond) (xb : Addr) (xk : ClassId) (xfm : Value) (xc0 xc1 xc2 xc3 : Int32) (h0 : Heap) (O0 : Ext Z.heap h0) (S_A : Sta Z Z.heap Y1 Y3 "Z" (.int (1 : Int32))) (S_H : Sta Z Z.heap Y1 "HI_BYTE_SHIFT" "I" (.int (0 : Int32))) (S_L : Sta Z Z.heap Y1 "LO_BYTE_SHIFT" "I" (.int (8 : Int32))) (S_F : Sta Z Z.heap Y4 Y5 Y6 xfm) (hcat : xfm.category = 1) (hr : 0 ≤ xc1.toInt ∧ xc1.toInt < 65536) (V_xb : Arv Z h0 xb xk .byte (8 : Int32) [(iu0 xc0), (iu8 xc0), (iu0 xc1), (iu8 xc1), (iu0 xc2), (iu8 xc2), (iu0 xc3), (iu8 xc3)] (.int (0 : Int32))) :
    oCon l Z yy8 jdk_52_method_83_code 2 (some .char) ws ({ frames := 3, cells := 0, slots := 0, locals := 40 } : Room) #[(.ref xb), (.int (1 : Int32))] h0 (oPq (some (.int xc1)) h0) := by
  refine oCon.of (plainFor_of_name pn_2) ?_
  intro p e s m below meth c T X hx hby hml hown hnm hret hlk hZ e0
  have hml : c.maxLocals = 2 := hml
  have K : oKp h0 h0 [] [] := oKp.nil _ _
  refine oWk.cast (g' := (mkF m 0 #[rv xb, iv 1] [])) (by first | rfl | (simp [entryFrame, mkF, argsToLocals, Value.category]; done)) ?_
  refine oWk.st (fun _ kt => zI X hx hby d25_0 rfl rfl (zA X hx hby d25_1 rfl rfl rfl kt)) ?_
  have Oh := K.old O0 all0
  obtain ⟨T, L2, X, e0, K, st⟩ := (cs4 hw).pure X hx hZ hown e0 K (A := [(.int (1 : Int32)), (.ref xb)]) rfl (rUCk_4_1 l Z a0 hw [] xb xk xfm xc0 xc1 xc2 xc3 h0 Oh S_F hcat V_xb) (W := 0) (by decide) hml (Ls := #[rv xb, iv 1]) rfl (rest := []) rfl rfl hby d25_2
  refine oWk.st (fun _ kt => st _ (zA X hx hby d25_5 rfl rfl rfl (zI X hx hby d25_6 rfl rfl kt))) ?_
  obtain ⟨T, L4, X, e0, K, st⟩ := (cs5 hw).pure X hx hZ hown e0 K (A := [(.ref xb), (.int (1 : Int32))]) rfl (rGC_4_1 l Z a0 hw [] xb xk xc0 xc1 xc2 xc3 h0 Oh S_A S_H S_L hr V_xb) (W := 0) (by decide) hml (Ls := #[rv xb, iv 1]) rfl (rest := []) rfl rfl hby d25_7
  refine oWk.to (mkF m 10 #[rv xb, iv 1] [(.int xc1)]) (fun _ kt => st _ kt) ?_
  exact oRetN X hx hlk hret (Or.inr (Or.inl rfl)) (show narrow .char (.int xc1) = .int xc1 from congrArg Value.int (oChrU hr)) (hb hby d25_10) (by rw [e0]; exact ⟨rfl, rfl, K⟩) (by decide) (by decide)
theorem rCAU_4_1 (l : Launch) (Z : State) (a0 : Array Value) (hw : oHW a0 Z) (ws : List Jvm.Cond) (xa xb : Addr) (xk : ClassId) (xfm : Value) (xz xc0 xc1 xc2 xc3 : Int32) (h0 : Heap) (O0 : Ext Z.heap h0) (S_Z : Sta Z Z.heap Y0 Y2 "Z" (.int xz)) (hz : ¬ xz = (0 : Int32)) (S_A : Sta Z Z.heap Y1 Y3 "Z" (.int (1 : Int32))) (S_H : Sta Z Z.heap Y1 "HI_BYTE_SHIFT" "I" (.int (0 : Int32))) (S_L : Sta Z Z.heap Y1 "LO_BYTE_SHIFT" "I" (.int (8 : Int32))) (S_F : Sta Z Z.heap Y4 Y5 Y6 xfm) (hcat : xfm.category = 1) (hr : 0 ≤ xc1.toInt ∧ xc1.toInt < 65536) (E_xa : Exa Z h0 xa Y0) (F_coder_xa : Fld Z h0 xa Y0 "coder" "B" (.int (1 : Int32))) (F_value_xa : Fld Z h0 xa Y0 "value" "[B" (.ref xb)) (V_xb : Arv Z h0 xb xk .byte (8 : Int32) [(iu0 xc0), (iu8 xc0), (iu0 xc1), (iu8 xc1), (iu0 xc2), (iu8 xc2), (iu0 xc3), (iu8 xc3)] (.int (0 : Int32))) :
    oCon l Z yy9 jdk_42_method_56_code 2 (some .char) ws ({ frames := 4, cells := 0, slots := 0, locals := 53 } : Room) #[(.ref xa), (.int (1 : Int32))] h0 (oPq (some (.int xc1)) h0) := by
  refine oCon.of (plainFor_of_name pn_0) ?_
  intro p e s m below meth c T X hx hby hml hown hnm hret hlk hZ e0
  have hml : c.maxLocals = 2 := hml
  have K : oKp h0 h0 [] [] := oKp.nil _ _
  refine oWk.cast (g' := (mkF m 0 #[rv xa, iv 1] [])) (by first | rfl | (simp [entryFrame, mkF, argsToLocals, Value.category]; done)) ?_
  refine oWk.st (fun _ kt => zA X hx hby d23_0 rfl rfl rfl kt) ?_
  have Oh := K.old O0 all0
  obtain ⟨T, L2, X, e0, K, st⟩ := (cs6 hw).pure X hx hZ hown e0 K (A := [(.ref xa)]) ⟨rfl, _, _, rfl, E_xa⟩ (rIsL1 l Z a0 hw [] xa xz h0 Oh S_Z hz F_coder_xa) (W := 0) (by decide) hml (Ls := #[rv xa, iv 1]) rfl (rest := []) rfl rfl hby d23_1
  refine oWk.st (fun _ kt => st _ (zF X hx hby d23_4 rfl rfl ((if0 _ _).trans (teq (by decide)).1) (pc' := 16) rfl (zA X hx hby d23_16 rfl rfl rfl kt))) ?_
  obtain ⟨T, X, e0, st⟩ := getF X hx hZ hown (host := "") (Or.inl (oW hw 33 rfl)) Via.refl e0 F_value_xa (g := (mkF m 17 #[rv xa, iv 1] [(.ref xa)])) rfl rfl (hb hby d23_17)
  refine oWk.st (fun _ kt => st _ (zI X hx hby d23_20 rfl rfl kt)) ?_
  obtain ⟨T, L4, X, e0, K, st⟩ := (cs7 hw).pure X hx hZ hown e0 K (A := [(.ref xb), (.int (1 : Int32))]) rfl (rUC_4_1 l Z a0 hw [] xb xk xfm xc0 xc1 xc2 xc3 h0 Oh S_A S_H S_L S_F hcat hr V_xb) (W := 0) (by decide) hml (Ls := #[rv xa, iv 1]) rfl (rest := []) rfl rfl hby d23_21
  refine oWk.to (mkF m 24 #[rv xa, iv 1] [(.int xc1)]) (fun _ kt => st _ kt) ?_
  exact oRetN X hx hlk hret (Or.inr (Or.inl rfl)) (show narrow .char (.int xc1) = .int xc1 from congrArg Value.int (oChrU hr)) (hb hby d23_24) (by rw [e0]; exact ⟨rfl, rfl, K⟩) (by decide) (by decide)
theorem rLC_4_1 (l : Launch) (Z : State) (a0 : Array Value) (hw : oHW a0 Z) (ws : List Jvm.Cond) (xb : Addr) (xk : ClassId) (xfm : Value) (xc0 xc1 xc2 xc3 : Int32) (h0 : Heap) (O0 : Ext Z.heap h0) (S_F : Sta Z Z.heap Y4 Y5 Y6 xfm) (hcat : xfm.category = 1) (hr : 0 ≤ xc1.toInt ∧ xc1.toInt < 256) (V_xb : Arv Z h0 xb xk .byte (4 : Int32) [(ib xc0), (ib xc1), (ib xc2), (ib xc3)] (.int (0 : Int32))) :
    oCon l Z yy10 jdk_43_method_2_code 2 (some .char) ws ({ frames := 2, cells := 0, slots := 0, locals := 27 } : Room) #[(.ref xb), (.int (1 : Int32))] h0 (oPq (some (.int xc1)) h0) := by
  refine oCon.of (plainFor_of_name pn_3) ?_
  intro p e s m below meth c T X hx hby hml hown hnm hret hlk hZ e0
  have hml : c.maxLocals = 2 := hml
  have K : oKp h0 h0 [] [] := oKp.nil _ _
  refine oWk.cast (g' := (mkF m 0 #[rv xb, iv 1] [])) (by first | rfl | (simp [entryFrame, mkF, argsToLocals, Value.category]; done)) ?_
  refine oWk.st (fun _ kt => zI X hx hby d31_0 rfl rfl (zA X hx hby d31_1 rfl rfl rfl (oAl X hx hZ e0 V_xb hby d31_2 rfl rfl kt))) ?_
  have Oh := K.old O0 all0
  obtain ⟨T, L3, X, e0, K, st⟩ := (cs8 hw).pure X hx hZ hown e0 K (A := [(.int (1 : Int32)), (.int (4 : Int32))]) rfl (rCkI l Z a0 hw [] (1 : Int32) (4 : Int32) xfm h0 Oh S_F hcat (by decide) (by decide)) (W := 0) (by decide) hml (Ls := #[rv xb, iv 1]) rfl (rest := []) rfl rfl hby d31_3
  refine oWk.to (mkF m 14 #[rv xb, iv 1] [(.int (((xc1.toInt8.toInt32) &&& (255 : Int32)).toUInt32.toUInt16.toUInt32.toInt32))]) (fun _ kt => st _ (zA X hx hby d31_6 rfl rfl rfl (zI X hx hby d31_7 rfl rfl (oLdB X hx hZ e0 V_xb (1 : Int32) (ib xc1) ⟨by decide, by decide⟩ rfl hby d31_8 rfl rfl (zM X hx hby d31_9 rfl (XS.iand X.here hx rfl (hb hby d31_12) rfl (XS.i2c X.here hx rfl (hb hby d31_13) rfl kt))))))) ?_
  rw [oBk hr]
  show oWk _ _ _ _ T (mkF m 14 #[rv xb, iv 1] [(.int xc1)])
  exact oRetN X hx hlk hret (Or.inr (Or.inl rfl)) (show narrow .char (.int xc1) = .int xc1 from congrArg Value.int (oChr hr)) (hb hby d31_14) (by rw [e0]; exact ⟨rfl, rfl, K⟩) (by decide) (by decide)
theorem rCA_4_1 (l : Launch) (Z : State) (a0 : Array Value) (hw : oHW a0 Z) (ws : List Jvm.Cond) (xa xb : Addr) (xk : ClassId) (xfm : Value) (xz xc0 xc1 xc2 xc3 : Int32) (h0 : Heap) (O0 : Ext Z.heap h0) (S_Z : Sta Z Z.heap Y0 Y2 "Z" (.int xz)) (hz : ¬ xz = (0 : Int32)) (S_F : Sta Z Z.heap Y4 Y5 Y6 xfm) (hcat : xfm.category = 1) (hr : 0 ≤ xc1.toInt ∧ xc1.toInt < 256) (E_xa : Exa Z h0 xa Y0) (F_coder_xa : Fld Z h0 xa Y0 "coder" "B" (.int (0 : Int32))) (F_value_xa : Fld Z h0 xa Y0 "value" "[B" (.ref xb)) (V_xb : Arv Z h0 xb xk .byte (4 : Int32) [(ib xc0), (ib xc1), (ib xc2), (ib xc3)] (.int (0 : Int32))) :
    oCon l Z yy9 jdk_42_method_56_code 2 (some .char) ws ({ frames := 4, cells := 0, slots := 0, locals := 53 } : Room) #[(.ref xa), (.int (1 : Int32))] h0 (oPq (some (.int xc1)) h0) := by
  refine oCon.of (plainFor_of_name pn_0) ?_
  intro p e s m below meth c T X hx hby hml hown hnm hret hlk hZ e0
  have hml : c.maxLocals = 2 := hml
  have K : oKp h0 h0 [] [] := oKp.nil _ _
  refine oWk.cast (g' := (mkF m 0 #[rv xa, iv 1] [])) (by first | rfl | (simp [entryFrame, mkF, argsToLocals, Value.category]; done)) ?_
  refine oWk.st (fun _ kt => zA X hx hby d23_0 rfl rfl rfl kt) ?_
  have Oh := K.old O0 all0
  obtain ⟨T, L2, X, e0, K, st⟩ := (cs6 hw).pure X hx hZ hown e0 K (A := [(.ref xa)]) ⟨rfl, _, _, rfl, E_xa⟩ (rIsL l Z a0 hw [] xa xz h0 Oh S_Z hz F_coder_xa) (W := 0) (by decide) hml (Ls := #[rv xa, iv 1]) rfl (rest := []) rfl rfl hby d23_1
  refine oWk.st (fun _ kt => st _ (zH X hx hby d23_4 rfl rfl ((if0 _ _).trans (feq (by decide)).1) (zA X hx hby d23_7 rfl rfl rfl kt))) ?_
  obtain ⟨T, X, e0, st⟩ := getF X hx hZ hown (host := "") (Or.inl (oW hw 33 rfl)) Via.refl e0 F_value_xa (g := (mkF m 8 #[rv xa, iv 1] [(.ref xa)])) rfl rfl (hb hby d23_8)
  refine oWk.st (fun _ kt => st _ (zI X hx hby d23_11 rfl rfl kt)) ?_
  obtain ⟨T, L4, X, e0, K, st⟩ := (cs9 hw).pure X hx hZ hown e0 K (A := [(.ref xb), (.int (1 : Int32))]) rfl (rLC_4_1 l Z a0 hw [] xb xk xfm xc0 xc1 xc2 xc3 h0 Oh S_F hcat hr V_xb) (W := 0) (by decide) hml (Ls := #[rv xa, iv 1]) rfl (rest := []) rfl rfl hby d23_12
  refine oWk.to (mkF m 15 #[rv xa, iv 1] [(.int xc1)]) (fun _ kt => st _ kt) ?_
  exact oRetN X hx hlk hret (Or.inr (Or.inl rfl)) (show narrow .char (.int xc1) = .int xc1 from congrArg Value.int (oChr hr)) (hb hby d23_15) (by rw [e0]; exact ⟨rfl, rfl, K⟩) (by decide) (by decide)
theorem rCAT_4_1 (l : Launch) (Z : State) (a0 : Array Value) (hw : oHW a0 Z) (ws : List Jvm.Cond) (xa : Addr) (xfm : Value) (xz xc0 xc1 xc2 xc3 : Int32) (h0 : Heap) (O0 : Ext Z.heap h0) (S_Z : Sta Z Z.heap Y0 Y2 "Z" (.int xz)) (hz : ¬ xz = (0 : Int32)) (S_A : Sta Z Z.heap Y1 Y3 "Z" (.int (1 : Int32))) (S_H : Sta Z Z.heap Y1 "HI_BYTE_SHIFT" "I" (.int (0 : Int32))) (S_L : Sta Z Z.heap Y1 "LO_BYTE_SHIFT" "I" (.int (8 : Int32))) (S_F : Sta Z Z.heap Y4 Y5 Y6 xfm) (hcat : xfm.category = 1) (T_xa : oTx Z h0 xa [xc0, xc1, xc2, xc3]) :
    oCon l Z yy9 jdk_42_method_56_code 2 (some .char) ws ({ frames := 4, cells := 0, slots := 0, locals := 53 } : Room) #[(.ref xa), (.int (1 : Int32))] h0 (oPq (some (.int xc1)) h0) := by
  obtain ⟨b, k, E, V, ⟨C, A, R⟩ | ⟨C, A, R⟩⟩ := T_xa
  · exact rCA_4_1 l Z a0 hw ws xa b k xfm xz xc0 xc1 xc2 xc3 h0 O0 S_Z hz S_F hcat (R _ (List.mem_of_getElem? (i := 1) rfl)) E C V A
  · exact rCAU_4_1 l Z a0 hw ws xa b k xfm xz xc0 xc1 xc2 xc3 h0 O0 S_Z hz S_A S_H S_L S_F hcat (R _ (List.mem_of_getElem? (i := 1) rfl)) E C V A
theorem rUCk_4_2 (l : Launch) (Z : State) (a0 : Array Value) (hw : oHW a0 Z) (ws : List Jvm.Cond) (xb : Addr) (xk : ClassId) (xfm : Value) (xc0 xc1 xc2 xc3 : Int32) (h0 : Heap) (O0 : Ext Z.heap h0) (S_F : Sta Z Z.heap Y4 Y5 Y6 xfm) (hcat : xfm.category = 1) (V_xb : Arv Z h0 xb xk .byte (8 : Int32) [(iu0 xc0), (iu8 xc0), (iu0 xc1), (iu8 xc1), (iu0 xc2), (iu8 xc2), (iu0 xc3), (iu8 xc3)] (.int (0 : Int32))) :
    oCon l Z yy6 jdk_52_method_91_code 2 none ws ({ frames := 2, cells := 0, slots := 0, locals := 27 } : Room) #[(.int (2 : Int32)), (.ref xb)] h0 (oPq none h0) := by
  refine oCon.of (plainFor_of_name pn_2) ?_
  intro p e s m below meth c T X hx hby hml hown hnm hret hlk hZ e0
  have hml : c.maxLocals = 2 := hml
  have K : oKp h0 h0 [] [] := oKp.nil _ _
  refine oWk.cast (g' := (mkF m 0 #[iv 2, rv xb] [])) (by first | rfl | (simp [entryFrame, mkF, argsToLocals, Value.category]; done)) ?_
  refine oWk.st (fun _ kt => zI X hx hby d26_0 rfl rfl (zA X hx hby d26_1 rfl rfl rfl kt)) ?_
  have Oh := K.old O0 all0
  obtain ⟨T, L2, X, e0, K, st⟩ := (cs2 hw).pure X hx hZ hown e0 K (A := [(.ref xb)]) rfl (rUL_4 l Z a0 hw [] xb xk xc0 xc1 xc2 xc3 h0 Oh V_xb) (W := 1) (by decide) hml (Ls := #[iv 2, rv xb]) rfl (rest := [(.int (2 : Int32))]) rfl rfl hby d26_2
  refine oWk.st (fun _ kt => st _ kt) ?_
  obtain ⟨T, L4, X, e0, K, st⟩ := (cs3 hw).pure X hx hZ hown e0 K (A := [(.int (2 : Int32)), (.int (4 : Int32))]) rfl (rCkI l Z a0 hw [] (2 : Int32) (4 : Int32) xfm h0 Oh S_F hcat (by decide) (by decide)) (W := 0) (by decide) hml (Ls := #[iv 2, rv xb]) rfl (rest := []) rfl rfl hby d26_5
  refine oWk.to (mkF m 8 #[iv 2, rv xb] []) (fun _ kt => st _ kt) ?_
  exact oRetV X hx hlk hret (hb hby d26_8) (by rw [e0]; exact ⟨rfl, rfl, K⟩) (by decide) (by decide)
theorem rGC_4_2 (l : Launch) (Z : State) (a0 : Array Value) (hw : oHW a0 Z) (ws : List Jvm.Cond) (xb : Addr) (xk : ClassId) (xc0 xc1 xc2 xc3 : Int32) (h0 : Heap) (O0 : Ext Z.heap h0) (S_A : Sta Z Z.heap Y1 Y3 "Z" (.int (1 : Int32))) (S_H : Sta Z Z.heap Y1 "HI_BYTE_SHIFT" "I" (.int (0 : Int32))) (S_L : Sta Z Z.heap Y1 "LO_BYTE_SHIFT" "I" (.int (8 : Int32))) (hr : 0 ≤ xc2.toInt ∧ xc2.toInt < 65536) (V_xb : Arv Z h0 xb xk .byte (8 : Int32) [(iu0 xc0), (iu8 xc0), (iu0 xc1), (iu8 xc1), (iu0 xc2), (iu8 xc2), (iu0 xc3), (iu8 xc3)] (.int (0 : Int32))) :
    oCon l Z yy7 jdk_52_method_5_code 2 (some .char) ws ({ frames := 0, cells := 0, slots := 0, locals := 0 } : Room) #[(.ref xb), (.int (2 : Int32))] h0 (oPq (some (.int xc2)) h0) := by
  refine oCon.of (plainFor_of_name pn_2) ?_
  intro p e s m below meth c T X hx hby hml hown hnm hret hlk hZ e0
  have hml : c.maxLocals = 2 := hml
  have K : oKp h0 h0 [] [] := oKp.nil _ _
  refine oWk.cast (g' := (mkF m 0 #[rv xb, iv 2] [])) (by first | rfl | (simp [entryFrame, mkF, argsToLocals, Value.category]; done)) ?_
  have Oh := K.old O0 all0
  obtain ⟨T, X, e0, st⟩ := getS2 X hx hZ hown (host := "") (Or.inl (oW hw 93 rfl)) Via.refl e0 (S_A.ext Oh) (g := (mkF m 0 #[rv xb, iv 2] [])) rfl (hb hby d22_0)
  refine oWk.to (mkF m 33 #[rv xb, iv 4] [(.ref xb)]) (fun _ kt => st _ (zF X hx hby d22_3 rfl rfl ((if0 _ _).trans (feq (by decide)).2) (pc' := 28) rfl (zI X hx hby d22_28 rfl rfl (zK X hx hby d22_29 rfl (XS.ishl X.here hx rfl (hb hby d22_30) rfl (zSn X hx hby d22_31 rfl rfl (l' := #[rv xb, iv 4]) rfl (zA X hx hby d22_32 rfl rfl rfl kt))))))) ?_
  refine oWk.st (fun _ kt => zI X hx hby d22_33 rfl rfl (zC X hx hby d22_34 rfl rfl (l' := #[rv xb, iv ((4 : Int32) + (1 : Int32))]) rfl (oLdB X hx hZ e0 V_xb (4 : Int32) (iu0 xc2) ⟨by decide, by decide⟩ rfl hby d22_37 rfl rfl (zM X hx hby d22_38 rfl (XS.iand X.here hx rfl (hb hby d22_41) rfl kt))))) ?_
  obtain ⟨T, X, e0, st⟩ := getS2 X hx hZ hown (host := "") (Or.inl (oW hw 94 rfl)) Via.refl e0 (S_H.ext Oh) (g := (mkF m 42 #[rv xb, iv 5] [(.int (((xc2 >>> ((0 : Int32) &&& 31)).toInt8.toInt32) &&& (255 : Int32)))])) rfl (hb hby d22_42)
  refine oWk.to (mkF m 53 #[rv xb, iv 5] [(.int (((xc2 >>> ((8 : Int32) &&& 31)).toInt8.toInt32) &&& (255 : Int32))), (.int ((((xc2 >>> ((0 : Int32) &&& 31)).toInt8.toInt32) &&& (255 : Int32)) <<< ((0 : Int32) &&& 31)))]) (fun _ kt => st _ (XS.ishl X.here hx rfl (hb hby d22_45) rfl (zA X hx hby d22_46 rfl rfl rfl (zI X hx hby d22_47 rfl rfl (oLdB X hx hZ e0 V_xb (5 : Int32) (iu8 xc2) ⟨by decide, by decide⟩ rfl hby d22_48 rfl rfl (zM X hx hby d22_49 rfl (XS.iand X.here hx rfl (hb hby d22_52) rfl kt))))))) ?_
  obtain ⟨T, X, e0, st⟩ := getS2 X hx hZ hown (host := "") (Or.inl (oW hw 95 rfl)) Via.refl e0 (S_L.ext Oh) (g := (mkF m 53 #[rv xb, iv 5] [(.int (((xc2 >>> ((8 : Int32) &&& 31)).toInt8.toInt32) &&& (255 : Int32))), (.int ((((xc2 >>> ((0 : Int32) &&& 31)).toInt8.toInt32) &&& (255 : Int32)) <<< ((0 : Int32) &&& 31)))])) rfl (hb hby d22_53)
  refine oWk.to (mkF m 59 #[rv xb, iv 5] [(.int ((((((xc2 >>> ((0 : Int32) &&& 31)).toInt8.toInt32) &&& (255 : Int32)) <<< ((0 : Int32) &&& 31)) ||| ((((xc2 >>> ((8 : Int32) &&& 31)).toInt8.toInt32) &&& (255 : Int32)) <<< ((8 : Int32) &&& 31))).toUInt32.toUInt16.toUInt32.toInt32))]) (fun _ kt => st _ (XS.ishl X.here hx rfl (hb hby d22_56) rfl (XS.ior X.here hx rfl (hb hby d22_57) rfl (XS.i2c X.here hx rfl (hb hby d22_58) rfl kt)))) ?_
  show oWk _ _ _ _ T (mkF m 59 #[rv xb, iv 5] [(.int ((((((xc2 >>> ((0 : Int32) &&& 31)).toInt8.toInt32) &&& (255 : Int32)) <<< ((0 : Int32) &&& 31)) ||| ((((xc2 >>> ((8 : Int32) &&& 31)).toInt8.toInt32) &&& (255 : Int32)) <<< ((8 : Int32) &&& 31))).toUInt32.toUInt16.toUInt32.toInt32))])
  rw [oU16 hr]
  show oWk _ _ _ _ T (mkF m 59 #[rv xb, iv 5] [(.int xc2)])
  exact oRetN X hx hlk hret (Or.inr (Or.inl rfl)) (show narrow .char (.int xc2) = .int xc2 from congrArg Value.int (oChrU hr)) (hb hby d22_59) (by rw [e0]; exact ⟨rfl, rfl, K⟩) (by decide) (by decide)
theorem rUC_4_2 (l : Launch) (Z : State) (a0 : Array Value) (hw : oHW a0 Z) (ws : List Jvm.Cond) (xb : Addr) (xk : ClassId) (xfm : Value) (xc0 xc1 xc2 xc3 : Int32) (h0 : Heap) (O0 : Ext Z.heap h0) (S_A : Sta Z Z.heap Y1 Y3 "Z" (.int (1 : Int32))) (S_H : Sta Z Z.heap Y1 "HI_BYTE_SHIFT" "I" (.int (0 : Int32))) (S_L : Sta Z Z.heap Y1 "LO_BYTE_SHIFT" "I" (.int (8 : Int32))) (S_F : Sta Z Z.heap Y4 Y5 Y6 xfm) (hcat : xfm.category = 1) (hr : 0 ≤ xc2.toInt ∧ xc2.toInt < 65536) (V_xb : Arv Z h0 xb xk .byte (8 : Int32) [(iu0 xc0), (iu8 xc0), (iu0 xc1), (iu8 xc1), (iu0 xc2), (iu8 xc2), (iu0 xc3), (iu8 xc3)] (.int (0 : Int32))) :
    oCon l Z yy8 jdk_52_method_83_code 2 (some .char) ws ({ frames := 3, cells := 0, slots := 0, locals := 40 } : Room) #[(.ref xb), (.int (2 : Int32))] h0 (oPq (some (.int xc2)) h0) := by
  refine oCon.of (plainFor_of_name pn_2) ?_
  intro p e s m below meth c T X hx hby hml hown hnm hret hlk hZ e0
  have hml : c.maxLocals = 2 := hml
  have K : oKp h0 h0 [] [] := oKp.nil _ _
  refine oWk.cast (g' := (mkF m 0 #[rv xb, iv 2] [])) (by first | rfl | (simp [entryFrame, mkF, argsToLocals, Value.category]; done)) ?_
  refine oWk.st (fun _ kt => zI X hx hby d25_0 rfl rfl (zA X hx hby d25_1 rfl rfl rfl kt)) ?_
  have Oh := K.old O0 all0
  obtain ⟨T, L2, X, e0, K, st⟩ := (cs4 hw).pure X hx hZ hown e0 K (A := [(.int (2 : Int32)), (.ref xb)]) rfl (rUCk_4_2 l Z a0 hw [] xb xk xfm xc0 xc1 xc2 xc3 h0 Oh S_F hcat V_xb) (W := 0) (by decide) hml (Ls := #[rv xb, iv 2]) rfl (rest := []) rfl rfl hby d25_2
  refine oWk.st (fun _ kt => st _ (zA X hx hby d25_5 rfl rfl rfl (zI X hx hby d25_6 rfl rfl kt))) ?_
  obtain ⟨T, L4, X, e0, K, st⟩ := (cs5 hw).pure X hx hZ hown e0 K (A := [(.ref xb), (.int (2 : Int32))]) rfl (rGC_4_2 l Z a0 hw [] xb xk xc0 xc1 xc2 xc3 h0 Oh S_A S_H S_L hr V_xb) (W := 0) (by decide) hml (Ls := #[rv xb, iv 2]) rfl (rest := []) rfl rfl hby d25_7
  refine oWk.to (mkF m 10 #[rv xb, iv 2] [(.int xc2)]) (fun _ kt => st _ kt) ?_
  exact oRetN X hx hlk hret (Or.inr (Or.inl rfl)) (show narrow .char (.int xc2) = .int xc2 from congrArg Value.int (oChrU hr)) (hb hby d25_10) (by rw [e0]; exact ⟨rfl, rfl, K⟩) (by decide) (by decide)
theorem rCAU_4_2 (l : Launch) (Z : State) (a0 : Array Value) (hw : oHW a0 Z) (ws : List Jvm.Cond) (xa xb : Addr) (xk : ClassId) (xfm : Value) (xz xc0 xc1 xc2 xc3 : Int32) (h0 : Heap) (O0 : Ext Z.heap h0) (S_Z : Sta Z Z.heap Y0 Y2 "Z" (.int xz)) (hz : ¬ xz = (0 : Int32)) (S_A : Sta Z Z.heap Y1 Y3 "Z" (.int (1 : Int32))) (S_H : Sta Z Z.heap Y1 "HI_BYTE_SHIFT" "I" (.int (0 : Int32))) (S_L : Sta Z Z.heap Y1 "LO_BYTE_SHIFT" "I" (.int (8 : Int32))) (S_F : Sta Z Z.heap Y4 Y5 Y6 xfm) (hcat : xfm.category = 1) (hr : 0 ≤ xc2.toInt ∧ xc2.toInt < 65536) (E_xa : Exa Z h0 xa Y0) (F_coder_xa : Fld Z h0 xa Y0 "coder" "B" (.int (1 : Int32))) (F_value_xa : Fld Z h0 xa Y0 "value" "[B" (.ref xb)) (V_xb : Arv Z h0 xb xk .byte (8 : Int32) [(iu0 xc0), (iu8 xc0), (iu0 xc1), (iu8 xc1), (iu0 xc2), (iu8 xc2), (iu0 xc3), (iu8 xc3)] (.int (0 : Int32))) :
    oCon l Z yy9 jdk_42_method_56_code 2 (some .char) ws ({ frames := 4, cells := 0, slots := 0, locals := 53 } : Room) #[(.ref xa), (.int (2 : Int32))] h0 (oPq (some (.int xc2)) h0) := by
  refine oCon.of (plainFor_of_name pn_0) ?_
  intro p e s m below meth c T X hx hby hml hown hnm hret hlk hZ e0
  have hml : c.maxLocals = 2 := hml
  have K : oKp h0 h0 [] [] := oKp.nil _ _
  refine oWk.cast (g' := (mkF m 0 #[rv xa, iv 2] [])) (by first | rfl | (simp [entryFrame, mkF, argsToLocals, Value.category]; done)) ?_
  refine oWk.st (fun _ kt => zA X hx hby d23_0 rfl rfl rfl kt) ?_
  have Oh := K.old O0 all0
  obtain ⟨T, L2, X, e0, K, st⟩ := (cs6 hw).pure X hx hZ hown e0 K (A := [(.ref xa)]) ⟨rfl, _, _, rfl, E_xa⟩ (rIsL1 l Z a0 hw [] xa xz h0 Oh S_Z hz F_coder_xa) (W := 0) (by decide) hml (Ls := #[rv xa, iv 2]) rfl (rest := []) rfl rfl hby d23_1
  refine oWk.st (fun _ kt => st _ (zF X hx hby d23_4 rfl rfl ((if0 _ _).trans (teq (by decide)).1) (pc' := 16) rfl (zA X hx hby d23_16 rfl rfl rfl kt))) ?_
  obtain ⟨T, X, e0, st⟩ := getF X hx hZ hown (host := "") (Or.inl (oW hw 33 rfl)) Via.refl e0 F_value_xa (g := (mkF m 17 #[rv xa, iv 2] [(.ref xa)])) rfl rfl (hb hby d23_17)
  refine oWk.st (fun _ kt => st _ (zI X hx hby d23_20 rfl rfl kt)) ?_
  obtain ⟨T, L4, X, e0, K, st⟩ := (cs7 hw).pure X hx hZ hown e0 K (A := [(.ref xb), (.int (2 : Int32))]) rfl (rUC_4_2 l Z a0 hw [] xb xk xfm xc0 xc1 xc2 xc3 h0 Oh S_A S_H S_L S_F hcat hr V_xb) (W := 0) (by decide) hml (Ls := #[rv xa, iv 2]) rfl (rest := []) rfl rfl hby d23_21
  refine oWk.to (mkF m 24 #[rv xa, iv 2] [(.int xc2)]) (fun _ kt => st _ kt) ?_
  exact oRetN X hx hlk hret (Or.inr (Or.inl rfl)) (show narrow .char (.int xc2) = .int xc2 from congrArg Value.int (oChrU hr)) (hb hby d23_24) (by rw [e0]; exact ⟨rfl, rfl, K⟩) (by decide) (by decide)
theorem rLC_4_2 (l : Launch) (Z : State) (a0 : Array Value) (hw : oHW a0 Z) (ws : List Jvm.Cond) (xb : Addr) (xk : ClassId) (xfm : Value) (xc0 xc1 xc2 xc3 : Int32) (h0 : Heap) (O0 : Ext Z.heap h0) (S_F : Sta Z Z.heap Y4 Y5 Y6 xfm) (hcat : xfm.category = 1) (hr : 0 ≤ xc2.toInt ∧ xc2.toInt < 256) (V_xb : Arv Z h0 xb xk .byte (4 : Int32) [(ib xc0), (ib xc1), (ib xc2), (ib xc3)] (.int (0 : Int32))) :
    oCon l Z yy10 jdk_43_method_2_code 2 (some .char) ws ({ frames := 2, cells := 0, slots := 0, locals := 27 } : Room) #[(.ref xb), (.int (2 : Int32))] h0 (oPq (some (.int xc2)) h0) := by
  refine oCon.of (plainFor_of_name pn_3) ?_
  intro p e s m below meth c T X hx hby hml hown hnm hret hlk hZ e0
  have hml : c.maxLocals = 2 := hml
  have K : oKp h0 h0 [] [] := oKp.nil _ _
  refine oWk.cast (g' := (mkF m 0 #[rv xb, iv 2] [])) (by first | rfl | (simp [entryFrame, mkF, argsToLocals, Value.category]; done)) ?_
  refine oWk.st (fun _ kt => zI X hx hby d31_0 rfl rfl (zA X hx hby d31_1 rfl rfl rfl (oAl X hx hZ e0 V_xb hby d31_2 rfl rfl kt))) ?_
  have Oh := K.old O0 all0
  obtain ⟨T, L3, X, e0, K, st⟩ := (cs8 hw).pure X hx hZ hown e0 K (A := [(.int (2 : Int32)), (.int (4 : Int32))]) rfl (rCkI l Z a0 hw [] (2 : Int32) (4 : Int32) xfm h0 Oh S_F hcat (by decide) (by decide)) (W := 0) (by decide) hml (Ls := #[rv xb, iv 2]) rfl (rest := []) rfl rfl hby d31_3
  refine oWk.to (mkF m 14 #[rv xb, iv 2] [(.int (((xc2.toInt8.toInt32) &&& (255 : Int32)).toUInt32.toUInt16.toUInt32.toInt32))]) (fun _ kt => st _ (zA X hx hby d31_6 rfl rfl rfl (zI X hx hby d31_7 rfl rfl (oLdB X hx hZ e0 V_xb (2 : Int32) (ib xc2) ⟨by decide, by decide⟩ rfl hby d31_8 rfl rfl (zM X hx hby d31_9 rfl (XS.iand X.here hx rfl (hb hby d31_12) rfl (XS.i2c X.here hx rfl (hb hby d31_13) rfl kt))))))) ?_
  rw [oBk hr]
  show oWk _ _ _ _ T (mkF m 14 #[rv xb, iv 2] [(.int xc2)])
  exact oRetN X hx hlk hret (Or.inr (Or.inl rfl)) (show narrow .char (.int xc2) = .int xc2 from congrArg Value.int (oChr hr)) (hb hby d31_14) (by rw [e0]; exact ⟨rfl, rfl, K⟩) (by decide) (by decide)
theorem rCA_4_2 (l : Launch) (Z : State) (a0 : Array Value) (hw : oHW a0 Z) (ws : List Jvm.Cond) (xa xb : Addr) (xk : ClassId) (xfm : Value) (xz xc0 xc1 xc2 xc3 : Int32) (h0 : Heap) (O0 : Ext Z.heap h0) (S_Z : Sta Z Z.heap Y0 Y2 "Z" (.int xz)) (hz : ¬ xz = (0 : Int32)) (S_F : Sta Z Z.heap Y4 Y5 Y6 xfm) (hcat : xfm.category = 1) (hr : 0 ≤ xc2.toInt ∧ xc2.toInt < 256) (E_xa : Exa Z h0 xa Y0) (F_coder_xa : Fld Z h0 xa Y0 "coder" "B" (.int (0 : Int32))) (F_value_xa : Fld Z h0 xa Y0 "value" "[B" (.ref xb)) (V_xb : Arv Z h0 xb xk .byte (4 : Int32) [(ib xc0), (ib xc1), (ib xc2), (ib xc3)] (.int (0 : Int32))) :
    oCon l Z yy9 jdk_42_method_56_code 2 (some .char) ws ({ frames := 4, cells := 0, slots := 0, locals := 53 } : Room) #[(.ref xa), (.int (2 : Int32))] h0 (oPq (some (.int xc2)) h0) := by
  refine oCon.of (plainFor_of_name pn_0) ?_
  intro p e s m below meth c T X hx hby hml hown hnm hret hlk hZ e0
  have hml : c.maxLocals = 2 := hml
  have K : oKp h0 h0 [] [] := oKp.nil _ _
  refine oWk.cast (g' := (mkF m 0 #[rv xa, iv 2] [])) (by first | rfl | (simp [entryFrame, mkF, argsToLocals, Value.category]; done)) ?_
  refine oWk.st (fun _ kt => zA X hx hby d23_0 rfl rfl rfl kt) ?_
  have Oh := K.old O0 all0
  obtain ⟨T, L2, X, e0, K, st⟩ := (cs6 hw).pure X hx hZ hown e0 K (A := [(.ref xa)]) ⟨rfl, _, _, rfl, E_xa⟩ (rIsL l Z a0 hw [] xa xz h0 Oh S_Z hz F_coder_xa) (W := 0) (by decide) hml (Ls := #[rv xa, iv 2]) rfl (rest := []) rfl rfl hby d23_1
  refine oWk.st (fun _ kt => st _ (zH X hx hby d23_4 rfl rfl ((if0 _ _).trans (feq (by decide)).1) (zA X hx hby d23_7 rfl rfl rfl kt))) ?_
  obtain ⟨T, X, e0, st⟩ := getF X hx hZ hown (host := "") (Or.inl (oW hw 33 rfl)) Via.refl e0 F_value_xa (g := (mkF m 8 #[rv xa, iv 2] [(.ref xa)])) rfl rfl (hb hby d23_8)
  refine oWk.st (fun _ kt => st _ (zI X hx hby d23_11 rfl rfl kt)) ?_
  obtain ⟨T, L4, X, e0, K, st⟩ := (cs9 hw).pure X hx hZ hown e0 K (A := [(.ref xb), (.int (2 : Int32))]) rfl (rLC_4_2 l Z a0 hw [] xb xk xfm xc0 xc1 xc2 xc3 h0 Oh S_F hcat hr V_xb) (W := 0) (by decide) hml (Ls := #[rv xa, iv 2]) rfl (rest := []) rfl rfl hby d23_12
  refine oWk.to (mkF m 15 #[rv xa, iv 2] [(.int xc2)]) (fun _ kt => st _ kt) ?_
  exact oRetN X hx hlk hret (Or.inr (Or.inl rfl)) (show narrow .char (.int xc2) = .int xc2 from congrArg Value.int (oChr hr)) (hb hby d23_15) (by rw [e0]; exact ⟨rfl, rfl, K⟩) (by decide) (by decide)
theorem rCAT_4_2 (l : Launch) (Z : State) (a0 : Array Value) (hw : oHW a0 Z) (ws : List Jvm.Cond) (xa : Addr) (xfm : Value) (xz xc0 xc1 xc2 xc3 : Int32) (h0 : Heap) (O0 : Ext Z.heap h0) (S_Z : Sta Z Z.heap Y0 Y2 "Z" (.int xz)) (hz : ¬ xz = (0 : Int32)) (S_A : Sta Z Z.heap Y1 Y3 "Z" (.int (1 : Int32))) (S_H : Sta Z Z.heap Y1 "HI_BYTE_SHIFT" "I" (.int (0 : Int32))) (S_L : Sta Z Z.heap Y1 "LO_BYTE_SHIFT" "I" (.int (8 : Int32))) (S_F : Sta Z Z.heap Y4 Y5 Y6 xfm) (hcat : xfm.category = 1) (T_xa : oTx Z h0 xa [xc0, xc1, xc2, xc3]) :
    oCon l Z yy9 jdk_42_method_56_code 2 (some .char) ws ({ frames := 4, cells := 0, slots := 0, locals := 53 } : Room) #[(.ref xa), (.int (2 : Int32))] h0 (oPq (some (.int xc2)) h0) := by
  obtain ⟨b, k, E, V, ⟨C, A, R⟩ | ⟨C, A, R⟩⟩ := T_xa
  · exact rCA_4_2 l Z a0 hw ws xa b k xfm xz xc0 xc1 xc2 xc3 h0 O0 S_Z hz S_F hcat (R _ (List.mem_of_getElem? (i := 2) rfl)) E C V A
  · exact rCAU_4_2 l Z a0 hw ws xa b k xfm xz xc0 xc1 xc2 xc3 h0 O0 S_Z hz S_A S_H S_L S_F hcat (R _ (List.mem_of_getElem? (i := 2) rfl)) E C V A
theorem rUCk_4_3 (l : Launch) (Z : State) (a0 : Array Value) (hw : oHW a0 Z) (ws : List Jvm.Cond) (xb : Addr) (xk : ClassId) (xfm : Value) (xc0 xc1 xc2 xc3 : Int32) (h0 : Heap) (O0 : Ext Z.heap h0) (S_F : Sta Z Z.heap Y4 Y5 Y6 xfm) (hcat : xfm.category = 1) (V_xb : Arv Z h0 xb xk .byte (8 : Int32) [(iu0 xc0), (iu8 xc0), (iu0 xc1), (iu8 xc1), (iu0 xc2), (iu8 xc2), (iu0 xc3), (iu8 xc3)] (.int (0 : Int32))) :
    oCon l Z yy6 jdk_52_method_91_code 2 none ws ({ frames := 2, cells := 0, slots := 0, locals := 27 } : Room) #[(.int (3 : Int32)), (.ref xb)] h0 (oPq none h0) := by
  refine oCon.of (plainFor_of_name pn_2) ?_
  intro p e s m below meth c T X hx hby hml hown hnm hret hlk hZ e0
  have hml : c.maxLocals = 2 := hml
  have K : oKp h0 h0 [] [] := oKp.nil _ _
  refine oWk.cast (g' := (mkF m 0 #[iv 3, rv xb] [])) (by first | rfl | (simp [entryFrame, mkF, argsToLocals, Value.category]; done)) ?_
  refine oWk.st (fun _ kt => zI X hx hby d26_0 rfl rfl (zA X hx hby d26_1 rfl rfl rfl kt)) ?_
  have Oh := K.old O0 all0
  obtain ⟨T, L2, X, e0, K, st⟩ := (cs2 hw).pure X hx hZ hown e0 K (A := [(.ref xb)]) rfl (rUL_4 l Z a0 hw [] xb xk xc0 xc1 xc2 xc3 h0 Oh V_xb) (W := 1) (by decide) hml (Ls := #[iv 3, rv xb]) rfl (rest := [(.int (3 : Int32))]) rfl rfl hby d26_2
  refine oWk.st (fun _ kt => st _ kt) ?_
  obtain ⟨T, L4, X, e0, K, st⟩ := (cs3 hw).pure X hx hZ hown e0 K (A := [(.int (3 : Int32)), (.int (4 : Int32))]) rfl (rCkI l Z a0 hw [] (3 : Int32) (4 : Int32) xfm h0 Oh S_F hcat (by decide) (by decide)) (W := 0) (by decide) hml (Ls := #[iv 3, rv xb]) rfl (rest := []) rfl rfl hby d26_5
  refine oWk.to (mkF m 8 #[iv 3, rv xb] []) (fun _ kt => st _ kt) ?_
  exact oRetV X hx hlk hret (hb hby d26_8) (by rw [e0]; exact ⟨rfl, rfl, K⟩) (by decide) (by decide)
theorem rGC_4_3 (l : Launch) (Z : State) (a0 : Array Value) (hw : oHW a0 Z) (ws : List Jvm.Cond) (xb : Addr) (xk : ClassId) (xc0 xc1 xc2 xc3 : Int32) (h0 : Heap) (O0 : Ext Z.heap h0) (S_A : Sta Z Z.heap Y1 Y3 "Z" (.int (1 : Int32))) (S_H : Sta Z Z.heap Y1 "HI_BYTE_SHIFT" "I" (.int (0 : Int32))) (S_L : Sta Z Z.heap Y1 "LO_BYTE_SHIFT" "I" (.int (8 : Int32))) (hr : 0 ≤ xc3.toInt ∧ xc3.toInt < 65536) (V_xb : Arv Z h0 xb xk .byte (8 : Int32) [(iu0 xc0), (iu8 xc0), (iu0 xc1), (iu8 xc1), (iu0 xc2), (iu8 xc2), (iu0 xc3), (iu8 xc3)] (.int (0 : Int32))) :
    oCon l Z yy7 jdk_52_method_5_code 2 (some .char) ws ({ frames := 0, cells := 0, slots := 0, locals := 0 } : Room) #[(.ref xb), (.int (3 : Int32))] h0 (oPq (some (.int xc3)) h0) := by
  refine oCon.of (plainFor_of_name pn_2) ?_
  intro p e s m below meth c T X hx hby hml hown hnm hret hlk hZ e0
  have hml : c.maxLocals = 2 := hml
  have K : oKp h0 h0 [] [] := oKp.nil _ _
  refine oWk.cast (g' := (mkF m 0 #[rv xb, iv 3] [])) (by first | rfl | (simp [entryFrame, mkF, argsToLocals, Value.category]; done)) ?_
  have Oh := K.old O0 all0
  obtain ⟨T, X, e0, st⟩ := getS2 X hx hZ hown (host := "") (Or.inl (oW hw 93 rfl)) Via.refl e0 (S_A.ext Oh) (g := (mkF m 0 #[rv xb, iv 3] [])) rfl (hb hby d22_0)
  refine oWk.to (mkF m 33 #[rv xb, iv 6] [(.ref xb)]) (fun _ kt => st _ (zF X hx hby d22_3 rfl rfl ((if0 _ _).trans (feq (by decide)).2) (pc' := 28) rfl (zI X hx hby d22_28 rfl rfl (zK X hx hby d22_29 rfl (XS.ishl X.here hx rfl (hb hby d22_30) rfl (zSn X hx hby d22_31 rfl rfl (l' := #[rv xb, iv 6]) rfl (zA X hx hby d22_32 rfl rfl rfl kt))))))) ?_
  refine oWk.st (fun _ kt => zI X hx hby d22_33 rfl rfl (zC X hx hby d22_34 rfl rfl (l' := #[rv xb, iv ((6 : Int32) + (1 : Int32))]) rfl (oLdB X hx hZ e0 V_xb (6 : Int32) (iu0 xc3) ⟨by decide, by decide⟩ rfl hby d22_37 rfl rfl (zM X hx hby d22_38 rfl (XS.iand X.here hx rfl (hb hby d22_41) rfl kt))))) ?_
  obtain ⟨T, X, e0, st⟩ := getS2 X hx hZ hown (host := "") (Or.inl (oW hw 94 rfl)) Via.refl e0 (S_H.ext Oh) (g := (mkF m 42 #[rv xb, iv 7] [(.int (((xc3 >>> ((0 : Int32) &&& 31)).toInt8.toInt32) &&& (255 : Int32)))])) rfl (hb hby d22_42)
  refine oWk.to (mkF m 53 #[rv xb, iv 7] [(.int (((xc3 >>> ((8 : Int32) &&& 31)).toInt8.toInt32) &&& (255 : Int32))), (.int ((((xc3 >>> ((0 : Int32) &&& 31)).toInt8.toInt32) &&& (255 : Int32)) <<< ((0 : Int32) &&& 31)))]) (fun _ kt => st _ (XS.ishl X.here hx rfl (hb hby d22_45) rfl (zA X hx hby d22_46 rfl rfl rfl (zI X hx hby d22_47 rfl rfl (oLdB X hx hZ e0 V_xb (7 : Int32) (iu8 xc3) ⟨by decide, by decide⟩ rfl hby d22_48 rfl rfl (zM X hx hby d22_49 rfl (XS.iand X.here hx rfl (hb hby d22_52) rfl kt))))))) ?_
  obtain ⟨T, X, e0, st⟩ := getS2 X hx hZ hown (host := "") (Or.inl (oW hw 95 rfl)) Via.refl e0 (S_L.ext Oh) (g := (mkF m 53 #[rv xb, iv 7] [(.int (((xc3 >>> ((8 : Int32) &&& 31)).toInt8.toInt32) &&& (255 : Int32))), (.int ((((xc3 >>> ((0 : Int32) &&& 31)).toInt8.toInt32) &&& (255 : Int32)) <<< ((0 : Int32) &&& 31)))])) rfl (hb hby d22_53)
  refine oWk.to (mkF m 59 #[rv xb, iv 7] [(.int ((((((xc3 >>> ((0 : Int32) &&& 31)).toInt8.toInt32) &&& (255 : Int32)) <<< ((0 : Int32) &&& 31)) ||| ((((xc3 >>> ((8 : Int32) &&& 31)).toInt8.toInt32) &&& (255 : Int32)) <<< ((8 : Int32) &&& 31))).toUInt32.toUInt16.toUInt32.toInt32))]) (fun _ kt => st _ (XS.ishl X.here hx rfl (hb hby d22_56) rfl (XS.ior X.here hx rfl (hb hby d22_57) rfl (XS.i2c X.here hx rfl (hb hby d22_58) rfl kt)))) ?_
  show oWk _ _ _ _ T (mkF m 59 #[rv xb, iv 7] [(.int ((((((xc3 >>> ((0 : Int32) &&& 31)).toInt8.toInt32) &&& (255 : Int32)) <<< ((0 : Int32) &&& 31)) ||| ((((xc3 >>> ((8 : Int32) &&& 31)).toInt8.toInt32) &&& (255 : Int32)) <<< ((8 : Int32) &&& 31))).toUInt32.toUInt16.toUInt32.toInt32))])
  rw [oU16 hr]
  show oWk _ _ _ _ T (mkF m 59 #[rv xb, iv 7] [(.int xc3)])
  exact oRetN X hx hlk hret (Or.inr (Or.inl rfl)) (show narrow .char (.int xc3) = .int xc3 from congrArg Value.int (oChrU hr)) (hb hby d22_59) (by rw [e0]; exact ⟨rfl, rfl, K⟩) (by decide) (by decide)
theorem rUC_4_3 (l : Launch) (Z : State) (a0 : Array Value) (hw : oHW a0 Z) (ws : List Jvm.Cond) (xb : Addr) (xk : ClassId) (xfm : Value) (xc0 xc1 xc2 xc3 : Int32) (h0 : Heap) (O0 : Ext Z.heap h0) (S_A : Sta Z Z.heap Y1 Y3 "Z" (.int (1 : Int32))) (S_H : Sta Z Z.heap Y1 "HI_BYTE_SHIFT" "I" (.int (0 : Int32))) (S_L : Sta Z Z.heap Y1 "LO_BYTE_SHIFT" "I" (.int (8 : Int32))) (S_F : Sta Z Z.heap Y4 Y5 Y6 xfm) (hcat : xfm.category = 1) (hr : 0 ≤ xc3.toInt ∧ xc3.toInt < 65536) (V_xb : Arv Z h0 xb xk .byte (8 : Int32) [(iu0 xc0), (iu8 xc0), (iu0 xc1), (iu8 xc1), (iu0 xc2), (iu8 xc2), (iu0 xc3), (iu8 xc3)] (.int (0 : Int32))) :
    oCon l Z yy8 jdk_52_method_83_code 2 (some .char) ws ({ frames := 3, cells := 0, slots := 0, locals := 40 } : Room) #[(.ref xb), (.int (3 : Int32))] h0 (oPq (some (.int xc3)) h0) := by
  refine oCon.of (plainFor_of_name pn_2) ?_
  intro p e s m below meth c T X hx hby hml hown hnm hret hlk hZ e0
  have hml : c.maxLocals = 2 := hml
  have K : oKp h0 h0 [] [] := oKp.nil _ _
  refine oWk.cast (g' := (mkF m 0 #[rv xb, iv 3] [])) (by first | rfl | (simp [entryFrame, mkF, argsToLocals, Value.category]; done)) ?_
  refine oWk.st (fun _ kt => zI X hx hby d25_0 rfl rfl (zA X hx hby d25_1 rfl rfl rfl kt)) ?_
  have Oh := K.old O0 all0
  obtain ⟨T, L2, X, e0, K, st⟩ := (cs4 hw).pure X hx hZ hown e0 K (A := [(.int (3 : Int32)), (.ref xb)]) rfl (rUCk_4_3 l Z a0 hw [] xb xk xfm xc0 xc1 xc2 xc3 h0 Oh S_F hcat V_xb) (W := 0) (by decide) hml (Ls := #[rv xb, iv 3]) rfl (rest := []) rfl rfl hby d25_2
  refine oWk.st (fun _ kt => st _ (zA X hx hby d25_5 rfl rfl rfl (zI X hx hby d25_6 rfl rfl kt))) ?_
  obtain ⟨T, L4, X, e0, K, st⟩ := (cs5 hw).pure X hx hZ hown e0 K (A := [(.ref xb), (.int (3 : Int32))]) rfl (rGC_4_3 l Z a0 hw [] xb xk xc0 xc1 xc2 xc3 h0 Oh S_A S_H S_L hr V_xb) (W := 0) (by decide) hml (Ls := #[rv xb, iv 3]) rfl (rest := []) rfl rfl hby d25_7
  refine oWk.to (mkF m 10 #[rv xb, iv 3] [(.int xc3)]) (fun _ kt => st _ kt) ?_
  exact oRetN X hx hlk hret (Or.inr (Or.inl rfl)) (show narrow .char (.int xc3) = .int xc3 from congrArg Value.int (oChrU hr)) (hb hby d25_10) (by rw [e0]; exact ⟨rfl, rfl, K⟩) (by decide) (by decide)
theorem rCAU_4_3 (l : Launch) (Z : State) (a0 : Array Value) (hw : oHW a0 Z) (ws : List Jvm.Cond) (xa xb : Addr) (xk : ClassId) (xfm : Value) (xz xc0 xc1 xc2 xc3 : Int32) (h0 : Heap) (O0 : Ext Z.heap h0) (S_Z : Sta Z Z.heap Y0 Y2 "Z" (.int xz)) (hz : ¬ xz = (0 : Int32)) (S_A : Sta Z Z.heap Y1 Y3 "Z" (.int (1 : Int32))) (S_H : Sta Z Z.heap Y1 "HI_BYTE_SHIFT" "I" (.int (0 : Int32))) (S_L : Sta Z Z.heap Y1 "LO_BYTE_SHIFT" "I" (.int (8 : Int32))) (S_F : Sta Z Z.heap Y4 Y5 Y6 xfm) (hcat : xfm.category = 1) (hr : 0 ≤ xc3.toInt ∧ xc3.toInt < 65536) (E_xa : Exa Z h0 xa Y0) (F_coder_xa : Fld Z h0 xa Y0 "coder" "B" (.int (1 : Int32))) (F_value_xa : Fld Z h0 xa Y0 "value" "[B" (.ref xb)) (V_xb : Arv Z h0 xb xk .byte (8 : Int32) [(iu0 xc0), (iu8 xc0), (iu0 xc1), (iu8 xc1), (iu0 xc2), (iu8 xc2), (iu0 xc3), (iu8 xc3)] (.int (0 : Int32))) :
    oCon l Z yy9 jdk_42_method_56_code 2 (some .char) ws ({ frames := 4, cells := 0, slots := 0, locals := 53 } : Room) #[(.ref xa), (.int (3 : Int32))] h0 (oPq (some (.int xc3)) h0) := by
  refine oCon.of (plainFor_of_name pn_0) ?_
  intro p e s m below meth c T X hx hby hml hown hnm hret hlk hZ e0
  have hml : c.maxLocals = 2 := hml
  have K : oKp h0 h0 [] [] := oKp.nil _ _
  refine oWk.cast (g' := (mkF m 0 #[rv xa, iv 3] [])) (by first | rfl | (simp [entryFrame, mkF, argsToLocals, Value.category]; done)) ?_
  refine oWk.st (fun _ kt => zA X hx hby d23_0 rfl rfl rfl kt) ?_
  have Oh := K.old O0 all0
  obtain ⟨T, L2, X, e0, K, st⟩ := (cs6 hw).pure X hx hZ hown e0 K (A := [(.ref xa)]) ⟨rfl, _, _, rfl, E_xa⟩ (rIsL1 l Z a0 hw [] xa xz h0 Oh S_Z hz F_coder_xa) (W := 0) (by decide) hml (Ls := #[rv xa, iv 3]) rfl (rest := []) rfl rfl hby d23_1
  refine oWk.st (fun _ kt => st _ (zF X hx hby d23_4 rfl rfl ((if0 _ _).trans (teq (by decide)).1) (pc' := 16) rfl (zA X hx hby d23_16 rfl rfl rfl kt))) ?_
  obtain ⟨T, X, e0, st⟩ := getF X hx hZ hown (host := "") (Or.inl (oW hw 33 rfl)) Via.refl e0 F_value_xa (g := (mkF m 17 #[rv xa, iv 3] [(.ref xa)])) rfl rfl (hb hby d23_17)
  refine oWk.st (fun _ kt => st _ (zI X hx hby d23_20 rfl rfl kt)) ?_
  obtain ⟨T, L4, X, e0, K, st⟩ := (cs7 hw).pure X hx hZ hown e0 K (A := [(.ref xb), (.int (3 : Int32))]) rfl (rUC_4_3 l Z a0 hw [] xb xk xfm xc0 xc1 xc2 xc3 h0 Oh S_A S_H S_L S_F hcat hr V_xb) (W := 0) (by decide) hml (Ls := #[rv xa, iv 3]) rfl (rest := []) rfl rfl hby d23_21
  refine oWk.to (mkF m 24 #[rv xa, iv 3] [(.int xc3)]) (fun _ kt => st _ kt) ?_
  exact oRetN X hx hlk hret (Or.inr (Or.inl rfl)) (show narrow .char (.int xc3) = .int xc3 from congrArg Value.int (oChrU hr)) (hb hby d23_24) (by rw [e0]; exact ⟨rfl, rfl, K⟩) (by decide) (by decide)
theorem rLC_4_3 (l : Launch) (Z : State) (a0 : Array Value) (hw : oHW a0 Z) (ws : List Jvm.Cond) (xb : Addr) (xk : ClassId) (xfm : Value) (xc0 xc1 xc2 xc3 : Int32) (h0 : Heap) (O0 : Ext Z.heap h0) (S_F : Sta Z Z.heap Y4 Y5 Y6 xfm) (hcat : xfm.category = 1) (hr : 0 ≤ xc3.toInt ∧ xc3.toInt < 256) (V_xb : Arv Z h0 xb xk .byte (4 : Int32) [(ib xc0), (ib xc1), (ib xc2), (ib xc3)] (.int (0 : Int32))) :
    oCon l Z yy10 jdk_43_method_2_code 2 (some .char) ws ({ frames := 2, cells := 0, slots := 0, locals := 27 } : Room) #[(.ref xb), (.int (3 : Int32))] h0 (oPq (some (.int xc3)) h0) := by
  refine oCon.of (plainFor_of_name pn_3) ?_
  intro p e s m below meth c T X hx hby hml hown hnm hret hlk hZ e0
  have hml : c.maxLocals = 2 := hml
  have K : oKp h0 h0 [] [] := oKp.nil _ _
  refine oWk.cast (g' := (mkF m 0 #[rv xb, iv 3] [])) (by first | rfl | (simp [entryFrame, mkF, argsToLocals, Value.category]; done)) ?_
  refine oWk.st (fun _ kt => zI X hx hby d31_0 rfl rfl (zA X hx hby d31_1 rfl rfl rfl (oAl X hx hZ e0 V_xb hby d31_2 rfl rfl kt))) ?_
  have Oh := K.old O0 all0
  obtain ⟨T, L3, X, e0, K, st⟩ := (cs8 hw).pure X hx hZ hown e0 K (A := [(.int (3 : Int32)), (.int (4 : Int32))]) rfl (rCkI l Z a0 hw [] (3 : Int32) (4 : Int32) xfm h0 Oh S_F hcat (by decide) (by decide)) (W := 0) (by decide) hml (Ls := #[rv xb, iv 3]) rfl (rest := []) rfl rfl hby d31_3
  refine oWk.to (mkF m 14 #[rv xb, iv 3] [(.int (((xc3.toInt8.toInt32) &&& (255 : Int32)).toUInt32.toUInt16.toUInt32.toInt32))]) (fun _ kt => st _ (zA X hx hby d31_6 rfl rfl rfl (zI X hx hby d31_7 rfl rfl (oLdB X hx hZ e0 V_xb (3 : Int32) (ib xc3) ⟨by decide, by decide⟩ rfl hby d31_8 rfl rfl (zM X hx hby d31_9 rfl (XS.iand X.here hx rfl (hb hby d31_12) rfl (XS.i2c X.here hx rfl (hb hby d31_13) rfl kt))))))) ?_
  rw [oBk hr]
  show oWk _ _ _ _ T (mkF m 14 #[rv xb, iv 3] [(.int xc3)])
  exact oRetN X hx hlk hret (Or.inr (Or.inl rfl)) (show narrow .char (.int xc3) = .int xc3 from congrArg Value.int (oChr hr)) (hb hby d31_14) (by rw [e0]; exact ⟨rfl, rfl, K⟩) (by decide) (by decide)
theorem rCA_4_3 (l : Launch) (Z : State) (a0 : Array Value) (hw : oHW a0 Z) (ws : List Jvm.Cond) (xa xb : Addr) (xk : ClassId) (xfm : Value) (xz xc0 xc1 xc2 xc3 : Int32) (h0 : Heap) (O0 : Ext Z.heap h0) (S_Z : Sta Z Z.heap Y0 Y2 "Z" (.int xz)) (hz : ¬ xz = (0 : Int32)) (S_F : Sta Z Z.heap Y4 Y5 Y6 xfm) (hcat : xfm.category = 1) (hr : 0 ≤ xc3.toInt ∧ xc3.toInt < 256) (E_xa : Exa Z h0 xa Y0) (F_coder_xa : Fld Z h0 xa Y0 "coder" "B" (.int (0 : Int32))) (F_value_xa : Fld Z h0 xa Y0 "value" "[B" (.ref xb)) (V_xb : Arv Z h0 xb xk .byte (4 : Int32) [(ib xc0), (ib xc1), (ib xc2), (ib xc3)] (.int (0 : Int32))) :
    oCon l Z yy9 jdk_42_method_56_code 2 (some .char) ws ({ frames := 4, cells := 0, slots := 0, locals := 53 } : Room) #[(.ref xa), (.int (3 : Int32))] h0 (oPq (some (.int xc3)) h0) := by
  refine oCon.of (plainFor_of_name pn_0) ?_
  intro p e s m below meth c T X hx hby hml hown hnm hret hlk hZ e0
  have hml : c.maxLocals = 2 := hml
  have K : oKp h0 h0 [] [] := oKp.nil _ _
  refine oWk.cast (g' := (mkF m 0 #[rv xa, iv 3] [])) (by first | rfl | (simp [entryFrame, mkF, argsToLocals, Value.category]; done)) ?_
  refine oWk.st (fun _ kt => zA X hx hby d23_0 rfl rfl rfl kt) ?_
  have Oh := K.old O0 all0
  obtain ⟨T, L2, X, e0, K, st⟩ := (cs6 hw).pure X hx hZ hown e0 K (A := [(.ref xa)]) ⟨rfl, _, _, rfl, E_xa⟩ (rIsL l Z a0 hw [] xa xz h0 Oh S_Z hz F_coder_xa) (W := 0) (by decide) hml (Ls := #[rv xa, iv 3]) rfl (rest := []) rfl rfl hby d23_1
  refine oWk.st (fun _ kt => st _ (zH X hx hby d23_4 rfl rfl ((if0 _ _).trans (feq (by decide)).1) (zA X hx hby d23_7 rfl rfl rfl kt))) ?_
  obtain ⟨T, X, e0, st⟩ := getF X hx hZ hown (host := "") (Or.inl (oW hw 33 rfl)) Via.refl e0 F_value_xa (g := (mkF m 8 #[rv xa, iv 3] [(.ref xa)])) rfl rfl (hb hby d23_8)
  refine oWk.st (fun _ kt => st _ (zI X hx hby d23_11 rfl rfl kt)) ?_
  obtain ⟨T, L4, X, e0, K, st⟩ := (cs9 hw).pure X hx hZ hown e0 K (A := [(.ref xb), (.int (3 : Int32))]) rfl (rLC_4_3 l Z a0 hw [] xb xk xfm xc0 xc1 xc2 xc3 h0 Oh S_F hcat hr V_xb) (W := 0) (by decide) hml (Ls := #[rv xa, iv 3]) rfl (rest := []) rfl rfl hby d23_12
  refine oWk.to (mkF m 15 #[rv xa, iv 3] [(.int xc3)]) (fun _ kt => st _ kt) ?_
  exact oRetN X hx hlk hret (Or.inr (Or.inl rfl)) (show narrow .char (.int xc3) = .int xc3 from congrArg Value.int (oChr hr)) (hb hby d23_15) (by rw [e0]; exact ⟨rfl, rfl, K⟩) (by decide) (by decide)
theorem rCAT_4_3 (l : Launch) (Z : State) (a0 : Array Value) (hw : oHW a0 Z) (ws : List Jvm.Cond) (xa : Addr) (xfm : Value) (xz xc0 xc1 xc2 xc3 : Int32) (h0 : Heap) (O0 : Ext Z.heap h0) (S_Z : Sta Z Z.heap Y0 Y2 "Z" (.int xz)) (hz : ¬ xz = (0 : Int32)) (S_A : Sta Z Z.heap Y1 Y3 "Z" (.int (1 : Int32))) (S_H : Sta Z Z.heap Y1 "HI_BYTE_SHIFT" "I" (.int (0 : Int32))) (S_L : Sta Z Z.heap Y1 "LO_BYTE_SHIFT" "I" (.int (8 : Int32))) (S_F : Sta Z Z.heap Y4 Y5 Y6 xfm) (hcat : xfm.category = 1) (T_xa : oTx Z h0 xa [xc0, xc1, xc2, xc3]) :
    oCon l Z yy9 jdk_42_method_56_code 2 (some .char) ws ({ frames := 4, cells := 0, slots := 0, locals := 53 } : Room) #[(.ref xa), (.int (3 : Int32))] h0 (oPq (some (.int xc3)) h0) := by
  obtain ⟨b, k, E, V, ⟨C, A, R⟩ | ⟨C, A, R⟩⟩ := T_xa
  · exact rCA_4_3 l Z a0 hw ws xa b k xfm xz xc0 xc1 xc2 xc3 h0 O0 S_Z hz S_F hcat (R _ (List.mem_of_getElem? (i := 3) rfl)) E C V A
  · exact rCAU_4_3 l Z a0 hw ws xa b k xfm xz xc0 xc1 xc2 xc3 h0 O0 S_Z hz S_A S_H S_L S_F hcat (R _ (List.mem_of_getElem? (i := 3) rfl)) E C V A
theorem pn_4 : plainName "java/lang/Character" = true := by first | (simp [plainName, overriddenIn]; done) | decide +kernel
abbrev yy11 : MethodName := ⟨"java/lang/Character", "isSurrogate", "(C)Z"⟩
theorem d30_0 : decode jdk_89_method_16_code 0 = .ok (.iload_n 0, 1) := by decide +kernel
theorem d30_1 : decode jdk_89_method_16_code 1 = .ok (.ldc 75, 2) := by decide +kernel
theorem d30_3 : decode jdk_89_method_16_code 3 = .ok (.if_icmp .lt 13, 3) := by decide +kernel
theorem d30_16 : decode jdk_89_method_16_code 16 = .ok (.iconst 0, 1) := by decide +kernel
theorem d30_17 : decode jdk_89_method_16_code 17 = .ok (.ireturn, 1) := by decide +kernel
theorem d30_6 : decode jdk_89_method_16_code 6 = .ok (.iload_n 0, 1) := by decide +kernel
theorem d30_7 : decode jdk_89_method_16_code 7 = .ok (.ldc 77, 2) := by decide +kernel
theorem d30_9 : decode jdk_89_method_16_code 9 = .ok (.if_icmp .ge 7, 3) := by decide +kernel
theorem d30_12 : decode jdk_89_method_16_code 12 = .ok (.iconst 1, 1) := by decide +kernel
theorem d30_13 : decode jdk_89_method_16_code 13 = .ok (.goto 4, 3) := by decide +kernel
theorem rSur (l : Launch) (Z : State) (a0 : Array Value) (hw : oHW a0 Z) (ws : List Jvm.Cond) (xp : Int32) (h0 : Heap) (O0 : Ext Z.heap h0)  :
    oCon l Z yy11 jdk_89_method_16_code 1 (some .boolean) ws ({ frames := 0, cells := 0, slots := 0, locals := 0 } : Room) #[(.int xp)] h0 (oPq (some (.int (oBi (oSur xp)))) h0) := by
  refine oCon.of (plainFor_of_name pn_4) ?_
  intro p e s m below meth c T X hx hby hml hown hnm hret hlk hZ e0
  have hml : c.maxLocals = 1 := hml
  have K : oKp h0 h0 [] [] := oKp.nil _ _
  refine oWk.cast (g' := (mkF m 0 #[iv xp] [])) (by first | rfl | (simp [entryFrame, mkF, argsToLocals, Value.category]; done)) ?_
  refine oWk.st (fun _ kt => zI X hx hby d30_0 rfl rfl kt) ?_
  refine oWk.to (mkF m 3 #[iv xp] [(.int 55296), (.int xp)]) (fun _ kt => X.ldcI hx hown (mvT hZ (oW hw 130 rfl)) rfl (hb hby d30_1) kt) ?_
  by_cases hc3 : xp < (55296 : Int32)
  · refine oWk.to (mkF m 16 #[iv xp] []) (fun _ kt => zY X hx hby d30_3 rfl rfl (tlt hc3).1 (pc' := 16) rfl kt) ?_
    refine oWk.to (mkF m 17 #[iv xp] [(.int 0)]) (fun _ kt => zK X hx hby d30_16 rfl kt) ?_
    exact oRetZ X hx hlk hret (hb hby d30_17) (Or.inl rfl) (by rw [e0]; exact ⟨(by rw [oBi_f (fun q => q.1 hc3)]), rfl, K⟩) (by decide) (by decide)
  · refine oWk.to (mkF m 6 #[iv xp] []) (fun _ kt => zN X hx hby d30_3 rfl rfl (flt hc3).1 kt) ?_
    refine oWk.st (fun _ kt => zI X hx hby d30_6 rfl rfl kt) ?_
    refine oWk.to (mkF m 9 #[iv xp] [(.int 57344), (.int xp)]) (fun _ kt => X.ldcI hx hown (mvT hZ (oW hw 131 rfl)) rfl (hb hby d30_7) kt) ?_
    by_cases hc9 : xp < (57344 : Int32)
    · refine oWk.to (mkF m 12 #[iv xp] []) (fun _ kt => zN X hx hby d30_9 rfl rfl (tlt hc9).2.1 kt) ?_
      refine oWk.to (mkF m 17 #[iv xp] [(.int 1)]) (fun _ kt => zK X hx hby d30_12 rfl (zG X hx hby d30_13 rfl (pc' := 17) rfl kt)) ?_
      exact oRetZ X hx hlk hret (hb hby d30_17) (Or.inr rfl) (by rw [e0]; exact ⟨(by rw [oBi_t ⟨hc3, hc9⟩]), rfl, K⟩) (by decide) (by decide)
    · refine oWk.to (mkF m 16 #[iv xp] []) (fun _ kt => zY X hx hby d30_9 rfl rfl (flt hc9).2.1 (pc' := 16) rfl kt) ?_
      refine oWk.to (mkF m 17 #[iv xp] [(.int 0)]) (fun _ kt => zK X hx hby d30_16 rfl kt) ?_
      exact oRetZ X hx hlk hret (hb hby d30_17) (Or.inl rfl) (by rw [e0]; exact ⟨(by rw [oBi_f (fun q => hc9 q.2)]), rfl, K⟩) (by decide) (by decide)
abbrev yy12 : MethodName := ⟨"java/lang/Character", "compare", "(CC)I"⟩
theorem d32_0 : decode jdk_89_method_98_code 0 = .ok (.iload_n 0, 1) := by decide +kernel
theorem d32_1 : decode jdk_89_method_98_code 1 = .ok (.iload_n 1, 1) := by decide +kernel
theorem d32_2 : decode jdk_89_method_98_code 2 = .ok (.isub, 1) := by decide +kernel
theorem d32_3 : decode jdk_89_method_98_code 3 = .ok (.ireturn, 1) := by decide +kernel
theorem rCC (l : Launch) (Z : State) (a0 : Array Value) (hw : oHW a0 Z) (ws : List Jvm.Cond) (xp xq : Int32) (h0 : Heap) (O0 : Ext Z.heap h0)  :
    oCon l Z yy12 jdk_89_method_98_code 2 (some .int) ws ({ frames := 0, cells := 0, slots := 0, locals := 0 } : Room) #[(.int xp), (.int xq)] h0 (oPq (some (.int (xp - xq))) h0) := by
  refine oCon.of (plainFor_of_name pn_4) ?_
  intro p e s m below meth c T X hx hby hml hown hnm hret hlk hZ e0
  have hml : c.maxLocals = 2 := hml
  have K : oKp h0 h0 [] [] := oKp.nil _ _
  refine oWk.cast (g' := (mkF m 0 #[iv xp, iv xq] [])) (by first | rfl | (simp [entryFrame, mkF, argsToLocals, Value.category]; done)) ?_
  refine oWk.to (mkF m 3 #[iv xp, iv xq] [(.int (xp - xq))]) (fun _ kt => zI X hx hby d32_0 rfl rfl (zI X hx hby d32_1 rfl rfl (XS.isub X.here hx rfl (hb hby d32_2) rfl kt))) ?_
  exact oRetI X hx hlk hret (hb hby d32_3) (by rw [e0]; exact ⟨rfl, rfl, K⟩) (by decide) (by decide)
def oMin (a b : Int32) : Int32 := if b < a then b else a
def oIc (a b : Int32) : Int32 := if a < b then -1 else if a = b then 0 else 1
theorem oOfN {a : Nat} (h : a ≤ 4) : (Int32.ofNat a).toInt = a := Int32.toInt_ofNat_of_lt (by omega)
theorem oMn {a b : Nat} {mn : Int32} (ha : a ≤ 4) (hb : b ≤ 4) (h : oMin (Int32.ofNat a) (Int32.ofNat b) = mn) : (a ≤ b → mn.toInt = a) ∧ (b ≤ a → mn.toInt = b) := by
  have ea := oOfN ha
  have eb := oOfN hb
  subst h
  unfold oMin
  by_cases q : Int32.ofNat b < Int32.ofNat a
  · rw [if_pos q]
    have r := Int32.lt_iff_toInt_lt.mp q
    exact ⟨fun z => by omega, fun z => eb⟩
  · rw [if_neg q]
    have r : ¬ (Int32.ofNat b).toInt < (Int32.ofNat a).toInt := fun z => q (Int32.lt_iff_toInt_lt.mpr z)
    exact ⟨fun z => ea, fun z => by omega⟩
theorem oMnT {a b k : Nat} {mn i : Int32} (ha : a ≤ 4) (hb : b ≤ 4) (h : oMin (Int32.ofNat a) (Int32.ofNat b) = mn) (hi : i.toInt = k) (q : k < a ∧ k < b) : i < mn := by
  have m := oMn ha hb h
  apply Int32.lt_iff_toInt_lt.mpr
  rcases Nat.le_total a b with z | z
  · have := m.1 z; omega
  · have := m.2 z; omega
theorem oMnF {a b k : Nat} {mn i : Int32} (ha : a ≤ 4) (hb : b ≤ 4) (h : oMin (Int32.ofNat a) (Int32.ofNat b) = mn) (hi : i.toInt = k) (q : ¬ (k < a ∧ k < b)) : ¬ i < mn := fun w => by
  have m := oMn ha hb h
  have w' := Int32.lt_iff_toInt_lt.mp w
  rcases Nat.le_total a b with z | z
  · have := m.1 z; omega
  · have := m.2 z; omega
theorem oIcL {a b : Nat} (ha : a ≤ 4) (hb : b ≤ 4) (h : a < b) : oIc (Int32.ofNat a) (Int32.ofNat b) = -1 := by
  have ea := oOfN ha
  have eb := oOfN hb
  exact if_pos (Int32.lt_iff_toInt_lt.mpr (by omega))
theorem oIcG {a b : Nat} (ha : a ≤ 4) (hb : b ≤ 4) (h : b < a) : oIc (Int32.ofNat a) (Int32.ofNat b) = 1 := by
  have ea := oOfN ha
  have eb := oOfN hb
  have n : ¬ Int32.ofNat a < Int32.ofNat b := fun q => by
    have := Int32.lt_iff_toInt_lt.mp q
    omega
  have m : ¬ Int32.ofNat a = Int32.ofNat b := fun q => by
    have : (Int32.ofNat a).toInt = (Int32.ofNat b).toInt := by rw [q]
    omega
  unfold oIc
  rw [if_neg n, if_neg m]
theorem rLnG (l : Launch) (Z : State) (a0 : Array Value) (hw : oHW a0 Z) (ws : List Jvm.Cond) (xa : Addr) (xz : Int32) (xs : List Int32) (h0 : Heap) (O0 : Ext Z.heap h0) (S_Z : Sta Z Z.heap Y0 Y2 "Z" (.int xz)) (hz : ¬ xz = (0 : Int32)) (T_xa : oTx Z h0 xa xs) (hl : xs.length ≤ 4) :
    oCon l Z yy2 jdk_42_method_54_code 1 (some .int) ws ({ frames := 1, cells := 0, slots := 0, locals := 13 } : Room) #[(.ref xa)] h0 (oPq (some (.int (Int32.ofNat xs.length))) h0) := by
  rcases xs with _ | ⟨u0, _ | ⟨u1, _ | ⟨u2, _ | ⟨u3, _ | ⟨u4, su⟩⟩⟩⟩⟩
  · exact rLnT_0 l Z a0 hw ws xa xz  h0 O0 S_Z hz T_xa
  · exact rLnT_1 l Z a0 hw ws xa xz u0 h0 O0 S_Z hz T_xa
  · exact rLnT_2 l Z a0 hw ws xa xz u0 u1 h0 O0 S_Z hz T_xa
  · exact rLnT_3 l Z a0 hw ws xa xz u0 u1 u2 h0 O0 S_Z hz T_xa
  · exact rLnT_4 l Z a0 hw ws xa xz u0 u1 u2 u3 h0 O0 S_Z hz T_xa
  · exact absurd hl (by simp only [List.length_cons]; omega)
theorem rCAG_0 (l : Launch) (Z : State) (a0 : Array Value) (hw : oHW a0 Z) (ws : List Jvm.Cond) (xa : Addr) (xfm : Value) (xz : Int32) (xs : List Int32) (xc : Int32) (h0 : Heap) (O0 : Ext Z.heap h0) (S_Z : Sta Z Z.heap Y0 Y2 "Z" (.int xz)) (hz : ¬ xz = (0 : Int32)) (S_A : Sta Z Z.heap Y1 Y3 "Z" (.int (1 : Int32))) (S_H : Sta Z Z.heap Y1 "HI_BYTE_SHIFT" "I" (.int (0 : Int32))) (S_L : Sta Z Z.heap Y1 "LO_BYTE_SHIFT" "I" (.int (8 : Int32))) (S_F : Sta Z Z.heap Y4 Y5 Y6 xfm) (hcat : xfm.category = 1) (T_xa : oTx Z h0 xa xs) (hl : xs.length ≤ 4) (hj : xs[0]? = some xc) :
    oCon l Z yy9 jdk_42_method_56_code 2 (some .char) ws ({ frames := 4, cells := 0, slots := 0, locals := 53 } : Room) #[(.ref xa), (.int (0 : Int32))] h0 (oPq (some (.int xc)) h0) := by
  rcases xs with _ | ⟨u0, _ | ⟨u1, _ | ⟨u2, _ | ⟨u3, _ | ⟨u4, su⟩⟩⟩⟩⟩
  · exact absurd hj (by simp)
  · obtain rfl : u0 = xc := Option.some.inj hj
    exact rCAT_1_0 l Z a0 hw ws xa xfm xz u0 h0 O0 S_Z hz S_A S_H S_L S_F hcat T_xa
  · obtain rfl : u0 = xc := Option.some.inj hj
    exact rCAT_2_0 l Z a0 hw ws xa xfm xz u0 u1 h0 O0 S_Z hz S_A S_H S_L S_F hcat T_xa
  · obtain rfl : u0 = xc := Option.some.inj hj
    exact rCAT_3_0 l Z a0 hw ws xa xfm xz u0 u1 u2 h0 O0 S_Z hz S_A S_H S_L S_F hcat T_xa
  · obtain rfl : u0 = xc := Option.some.inj hj
    exact rCAT_4_0 l Z a0 hw ws xa xfm xz u0 u1 u2 u3 h0 O0 S_Z hz S_A S_H S_L S_F hcat T_xa
  · exact absurd hl (by simp only [List.length_cons]; omega)
theorem rCAG_1 (l : Launch) (Z : State) (a0 : Array Value) (hw : oHW a0 Z) (ws : List Jvm.Cond) (xa : Addr) (xfm : Value) (xz : Int32) (xs : List Int32) (xc : Int32) (h0 : Heap) (O0 : Ext Z.heap h0) (S_Z : Sta Z Z.heap Y0 Y2 "Z" (.int xz)) (hz : ¬ xz = (0 : Int32)) (S_A : Sta Z Z.heap Y1 Y3 "Z" (.int (1 : Int32))) (S_H : Sta Z Z.heap Y1 "HI_BYTE_SHIFT" "I" (.int (0 : Int32))) (S_L : Sta Z Z.heap Y1 "LO_BYTE_SHIFT" "I" (.int (8 : Int32))) (S_F : Sta Z Z.heap Y4 Y5 Y6 xfm) (hcat : xfm.category = 1) (T_xa : oTx Z h0 xa xs) (hl : xs.length ≤ 4) (hj : xs[1]? = some xc) :
    oCon l Z yy9 jdk_42_method_56_code 2 (some .char) ws ({ frames := 4, cells := 0, slots := 0, locals := 53 } : Room) #[(.ref xa), (.int (1 : Int32))] h0 (oPq (some (.int xc)) h0) := by
  rcases xs with _ | ⟨u0, _ | ⟨u1, _ | ⟨u2, _ | ⟨u3, _ | ⟨u4, su⟩⟩⟩⟩⟩
  · exact absurd hj (by simp)
  · exact absurd hj (by simp)
  · obtain rfl : u1 = xc := Option.some.inj hj
    exact rCAT_2_1 l Z a0 hw ws xa xfm xz u0 u1 h0 O0 S_Z hz S_A S_H S_L S_F hcat T_xa
  · obtain rfl : u1 = xc := Option.some.inj hj
    exact rCAT_3_1 l Z a0 hw ws xa xfm xz u0 u1 u2 h0 O0 S_Z hz S_A S_H S_L S_F hcat T_xa
  · obtain rfl : u1 = xc := Option.some.inj hj
    exact rCAT_4_1 l Z a0 hw ws xa xfm xz u0 u1 u2 u3 h0 O0 S_Z hz S_A S_H S_L S_F hcat T_xa
  · exact absurd hl (by simp only [List.length_cons]; omega)
theorem rCAG_2 (l : Launch) (Z : State) (a0 : Array Value) (hw : oHW a0 Z) (ws : List Jvm.Cond) (xa : Addr) (xfm : Value) (xz : Int32) (xs : List Int32) (xc : Int32) (h0 : Heap) (O0 : Ext Z.heap h0) (S_Z : Sta Z Z.heap Y0 Y2 "Z" (.int xz)) (hz : ¬ xz = (0 : Int32)) (S_A : Sta Z Z.heap Y1 Y3 "Z" (.int (1 : Int32))) (S_H : Sta Z Z.heap Y1 "HI_BYTE_SHIFT" "I" (.int (0 : Int32))) (S_L : Sta Z Z.heap Y1 "LO_BYTE_SHIFT" "I" (.int (8 : Int32))) (S_F : Sta Z Z.heap Y4 Y5 Y6 xfm) (hcat : xfm.category = 1) (T_xa : oTx Z h0 xa xs) (hl : xs.length ≤ 4) (hj : xs[2]? = some xc) :
    oCon l Z yy9 jdk_42_method_56_code 2 (some .char) ws ({ frames := 4, cells := 0, slots := 0, locals := 53 } : Room) #[(.ref xa), (.int (2 : Int32))] h0 (oPq (some (.int xc)) h0) := by
  rcases xs with _ | ⟨u0, _ | ⟨u1, _ | ⟨u2, _ | ⟨u3, _ | ⟨u4, su⟩⟩⟩⟩⟩
  · exact absurd hj (by simp)
  · exact absurd hj (by simp)
  · exact absurd hj (by simp)
  · obtain rfl : u2 = xc := Option.some.inj hj
    exact rCAT_3_2 l Z a0 hw ws xa xfm xz u0 u1 u2 h0 O0 S_Z hz S_A S_H S_L S_F hcat T_xa
  · obtain rfl : u2 = xc := Option.some.inj hj
    exact rCAT_4_2 l Z a0 hw ws xa xfm xz u0 u1 u2 u3 h0 O0 S_Z hz S_A S_H S_L S_F hcat T_xa
  · exact absurd hl (by simp only [List.length_cons]; omega)
theorem rCAG_3 (l : Launch) (Z : State) (a0 : Array Value) (hw : oHW a0 Z) (ws : List Jvm.Cond) (xa : Addr) (xfm : Value) (xz : Int32) (xs : List Int32) (xc : Int32) (h0 : Heap) (O0 : Ext Z.heap h0) (S_Z : Sta Z Z.heap Y0 Y2 "Z" (.int xz)) (hz : ¬ xz = (0 : Int32)) (S_A : Sta Z Z.heap Y1 Y3 "Z" (.int (1 : Int32))) (S_H : Sta Z Z.heap Y1 "HI_BYTE_SHIFT" "I" (.int (0 : Int32))) (S_L : Sta Z Z.heap Y1 "LO_BYTE_SHIFT" "I" (.int (8 : Int32))) (S_F : Sta Z Z.heap Y4 Y5 Y6 xfm) (hcat : xfm.category = 1) (T_xa : oTx Z h0 xa xs) (hl : xs.length ≤ 4) (hj : xs[3]? = some xc) :
    oCon l Z yy9 jdk_42_method_56_code 2 (some .char) ws ({ frames := 4, cells := 0, slots := 0, locals := 53 } : Room) #[(.ref xa), (.int (3 : Int32))] h0 (oPq (some (.int xc)) h0) := by
  rcases xs with _ | ⟨u0, _ | ⟨u1, _ | ⟨u2, _ | ⟨u3, _ | ⟨u4, su⟩⟩⟩⟩⟩
  · exact absurd hj (by simp)
  · exact absurd hj (by simp)
  · exact absurd hj (by simp)
  · exact absurd hj (by simp)
  · obtain rfl : u3 = xc := Option.some.inj hj
    exact rCAT_4_3 l Z a0 hw ws xa xfm xz u0 u1 u2 u3 h0 O0 S_Z hz S_A S_H S_L S_F hcat T_xa
  · exact absurd hl (by simp only [List.length_cons]; omega)
abbrev yy13 : MethodName := ⟨"java/lang/Math", "min", "(II)I"⟩
theorem d10_0 : decode jdk_29_method_69_code 0 = .ok (.iload_n 0, 1) := by decide +kernel
theorem d10_1 : decode jdk_29_method_69_code 1 = .ok (.iload_n 1, 1) := by decide +kernel
theorem d10_2 : decode jdk_29_method_69_code 2 = .ok (.if_icmp .gt 7, 3) := by decide +kernel
theorem d10_9 : decode jdk_29_method_69_code 9 = .ok (.iload_n 1, 1) := by decide +kernel
theorem d10_10 : decode jdk_29_method_69_code 10 = .ok (.ireturn, 1) := by decide +kernel
theorem d10_5 : decode jdk_29_method_69_code 5 = .ok (.iload_n 0, 1) := by decide +kernel
theorem d10_6 : decode jdk_29_method_69_code 6 = .ok (.goto 4, 3) := by decide +kernel
theorem rMinG (l : Launch) (Z : State) (a0 : Array Value) (hw : oHW a0 Z) (ws : List Jvm.Cond) (xp xq : Int32) (h0 : Heap) (O0 : Ext Z.heap h0)  :
    oCon l Z yy13 jdk_29_method_69_code 2 (some .int) ws ({ frames := 0, cells := 0, slots := 0, locals := 0 } : Room) #[(.int xp), (.int xq)] h0 (oPq (some (.int (oMin xp xq))) h0) := by
  refine oCon.of (Jvm.Free.JP.mathPlain rfl (by decide +kernel)) ?_
  intro p e s m below meth c T X hx hby hml hown hnm hret hlk hZ e0
  have hml : c.maxLocals = 2 := hml
  have K : oKp h0 h0 [] [] := oKp.nil _ _
  refine oWk.cast (g' := (mkF m 0 #[iv xp, iv xq] [])) (by first | rfl | (simp [entryFrame, mkF, argsToLocals, Value.category]; done)) ?_
  refine oWk.to (mkF m 2 #[iv xp, iv xq] [(.int xq), (.int xp)]) (fun _ kt => zI X hx hby d10_0 rfl rfl (zI X hx hby d10_1 rfl rfl kt)) ?_
  by_cases hc2 : xq < xp
  · refine oWk.to (mkF m 9 #[iv xp, iv xq] []) (fun _ kt => zY X hx hby d10_2 rfl rfl (tlt hc2).2.2.1 (pc' := 9) rfl kt) ?_
    refine oWk.to (mkF m 10 #[iv xp, iv xq] [(.int xq)]) (fun _ kt => zI X hx hby d10_9 rfl rfl kt) ?_
    exact oRetI X hx hlk hret (hb hby d10_10) (by rw [e0]; exact ⟨(by show _ = some (Value.int (oMin xp xq)); rw [oMin, if_pos hc2]), rfl, K⟩) (by decide) (by decide)
  · refine oWk.to (mkF m 5 #[iv xp, iv xq] []) (fun _ kt => zN X hx hby d10_2 rfl rfl (flt hc2).2.2.1 kt) ?_
    refine oWk.to (mkF m 10 #[iv xp, iv xq] [(.int xp)]) (fun _ kt => zI X hx hby d10_5 rfl rfl (zG X hx hby d10_6 rfl (pc' := 10) rfl kt)) ?_
    exact oRetI X hx hlk hret (hb hby d10_10) (by rw [e0]; exact ⟨(by show _ = some (Value.int (oMin xp xq)); rw [oMin, if_neg hc2]), rfl, K⟩) (by decide) (by decide)
theorem pn_5 : plainName "java/lang/Integer" = true := by first | (simp [plainName, overriddenIn]; done) | decide +kernel
abbrev yy14 : MethodName := ⟨"java/lang/Integer", "compare", "(II)I"⟩
theorem d11_0 : decode jdk_33_method_40_code 0 = .ok (.iload_n 0, 1) := by decide +kernel
theorem d11_1 : decode jdk_33_method_40_code 1 = .ok (.iload_n 1, 1) := by decide +kernel
theorem d11_2 : decode jdk_33_method_40_code 2 = .ok (.if_icmp .ge 7, 3) := by decide +kernel
theorem d11_5 : decode jdk_33_method_40_code 5 = .ok (.iconst (-1), 1) := by decide +kernel
theorem d11_6 : decode jdk_33_method_40_code 6 = .ok (.goto 13, 3) := by decide +kernel
theorem d11_19 : decode jdk_33_method_40_code 19 = .ok (.ireturn, 1) := by decide +kernel
theorem d11_9 : decode jdk_33_method_40_code 9 = .ok (.iload_n 0, 1) := by decide +kernel
theorem d11_10 : decode jdk_33_method_40_code 10 = .ok (.iload_n 1, 1) := by decide +kernel
theorem d11_11 : decode jdk_33_method_40_code 11 = .ok (.if_icmp .ne 7, 3) := by decide +kernel
theorem d11_14 : decode jdk_33_method_40_code 14 = .ok (.iconst 0, 1) := by decide +kernel
theorem d11_15 : decode jdk_33_method_40_code 15 = .ok (.goto 4, 3) := by decide +kernel
theorem d11_18 : decode jdk_33_method_40_code 18 = .ok (.iconst 1, 1) := by decide +kernel
theorem rICG (l : Launch) (Z : State) (a0 : Array Value) (hw : oHW a0 Z) (ws : List Jvm.Cond) (xp xq : Int32) (h0 : Heap) (O0 : Ext Z.heap h0)  :
    oCon l Z yy14 jdk_33_method_40_code 2 (some .int) ws ({ frames := 0, cells := 0, slots := 0, locals := 0 } : Room) #[(.int xp), (.int xq)] h0 (oPq (some (.int (oIc xp xq))) h0) := by
  refine oCon.of (plainFor_of_name pn_5) ?_
  intro p e s m below meth c T X hx hby hml hown hnm hret hlk hZ e0
  have hml : c.maxLocals = 2 := hml
  have K : oKp h0 h0 [] [] := oKp.nil _ _
  refine oWk.cast (g' := (mkF m 0 #[iv xp, iv xq] [])) (by first | rfl | (simp [entryFrame, mkF, argsToLocals, Value.category]; done)) ?_
  refine oWk.to (mkF m 2 #[iv xp, iv xq] [(.int xq), (.int xp)]) (fun _ kt => zI X hx hby d11_0 rfl rfl (zI X hx hby d11_1 rfl rfl kt)) ?_
  by_cases hc2 : xp < xq
  · refine oWk.to (mkF m 5 #[iv xp, iv xq] []) (fun _ kt => zN X hx hby d11_2 rfl rfl (tlt hc2).2.1 kt) ?_
    refine oWk.to (mkF m 19 #[iv xp, iv xq] [(.int (-1 : Int32))]) (fun _ kt => zK X hx hby d11_5 rfl (zG X hx hby d11_6 rfl (pc' := 19) rfl kt)) ?_
    exact oRetI X hx hlk hret (hb hby d11_19) (by rw [e0]; exact ⟨(by show _ = some (Value.int (oIc xp xq)); rw [oIc, if_pos hc2]), rfl, K⟩) (by decide) (by decide)
  · refine oWk.to (mkF m 9 #[iv xp, iv xq] []) (fun _ kt => zY X hx hby d11_2 rfl rfl (flt hc2).2.1 (pc' := 9) rfl kt) ?_
    refine oWk.to (mkF m 11 #[iv xp, iv xq] [(.int xq), (.int xp)]) (fun _ kt => zI X hx hby d11_9 rfl rfl (zI X hx hby d11_10 rfl rfl kt)) ?_
    by_cases hc11 : xp = xq
    · refine oWk.to (mkF m 14 #[iv xp, iv xq] []) (fun _ kt => zN X hx hby d11_11 rfl rfl (teq hc11).2 kt) ?_
      refine oWk.to (mkF m 19 #[iv xp, iv xq] [(.int 0)]) (fun _ kt => zK X hx hby d11_14 rfl (zG X hx hby d11_15 rfl (pc' := 19) rfl kt)) ?_
      exact oRetI X hx hlk hret (hb hby d11_19) (by rw [e0]; exact ⟨(by show _ = some (Value.int (oIc xp xq)); rw [oIc, if_neg hc2, if_pos hc11]), rfl, K⟩) (by decide) (by decide)
    · refine oWk.to (mkF m 18 #[iv xp, iv xq] []) (fun _ kt => zY X hx hby d11_11 rfl rfl (feq hc11).2 (pc' := 18) rfl kt) ?_
      refine oWk.to (mkF m 19 #[iv xp, iv xq] [(.int 1)]) (fun _ kt => zK X hx hby d11_18 rfl kt) ?_
      exact oRetI X hx hlk hret (hb hby d11_19) (by rw [e0]; exact ⟨(by show _ = some (Value.int (oIc xp xq)); rw [oIc, if_neg hc2, if_neg hc11]), rfl, K⟩) (by decide) (by decide)
theorem pn_6 : plainName "com/example/congruent/congruent/graph/CodePointOrder" = true := by first | (simp [plainName, overriddenIn]; done) | decide +kernel
abbrev yy15 : MethodName := ⟨"com/example/congruent/congruent/graph/CodePointOrder", "compare", "(Ljava/lang/String;Ljava/lang/String;)I"⟩
theorem d7_0 : decode prog_39_method_2_code 0 = .ok (.aload_n 0, 1) := by decide +kernel
theorem d7_1 : decode prog_39_method_2_code 1 = .ok (.invokevirtual 7, 3) := by decide +kernel
theorem pd_7 : parseMethodDescriptor "()I" = some ⟨[], some .int⟩ := by decide +kernel
theorem cs10 {a0 : Array Value} {Z : State} (hw : oHW a0 Z) : oCall Z Y8 (.invokevirtual 7) yy2 jdk_42_method_54_code 1 (some .int) (oRv Z 0 Y0) := oCall.virt (oW hw 39 rfl) (oW hw 40 rfl) (fun _ hZ => notFace_of_selects (args := #[]) (mvT hZ (oW hw 42 rfl))) (oW hw 42 rfl) (oW hw 41 rfl) (oW hw 16 rfl) (oW hw 43 rfl) (by decide) pd_7
theorem d7_4 : decode prog_39_method_2_code 4 = .ok (.aload_n 1, 1) := by decide +kernel
theorem d7_5 : decode prog_39_method_2_code 5 = .ok (.invokevirtual 7, 3) := by decide +kernel
theorem d7_8 : decode prog_39_method_2_code 8 = .ok (.invokestatic 13, 3) := by decide +kernel
theorem pd_8 : parseMethodDescriptor "(II)I" = some ⟨[.int, .int], some .int⟩ := by decide +kernel
theorem cs11 {a0 : Array Value} {Z : State} (hw : oHW a0 Z) : oCall Z Y8 (.invokestatic 13) yy13 jdk_29_method_69_code 2 (some .int) (oRs 2) := oCall.stat (oW hw 50 rfl) (oW hw 51 rfl) (oW hw 52 rfl) (oW hw 53 rfl) (by decide) pd_8
theorem d7_11 : decode prog_39_method_2_code 11 = .ok (.istore_n 2, 1) := by decide +kernel
theorem d7_12 : decode prog_39_method_2_code 12 = .ok (.iconst 0, 1) := by decide +kernel
theorem d7_13 : decode prog_39_method_2_code 13 = .ok (.istore_n 3, 1) := by decide +kernel
theorem d7_14 : decode prog_39_method_2_code 14 = .ok (.iload_n 3, 1) := by decide +kernel
theorem d7_15 : decode prog_39_method_2_code 15 = .ok (.iload_n 2, 1) := by decide +kernel
theorem d7_16 : decode prog_39_method_2_code 16 = .ok (.if_icmp .ge 66, 3) := by decide +kernel
theorem d7_82 : decode prog_39_method_2_code 82 = .ok (.aload_n 0, 1) := by decide +kernel
theorem d7_83 : decode prog_39_method_2_code 83 = .ok (.invokevirtual 7, 3) := by decide +kernel
theorem d7_86 : decode prog_39_method_2_code 86 = .ok (.aload_n 1, 1) := by decide +kernel
theorem d7_87 : decode prog_39_method_2_code 87 = .ok (.invokevirtual 7, 3) := by decide +kernel
theorem d7_90 : decode prog_39_method_2_code 90 = .ok (.invokestatic 33, 3) := by decide +kernel
theorem cs12 {a0 : Array Value} {Z : State} (hw : oHW a0 Z) : oCall Z Y8 (.invokestatic 33) yy14 jdk_33_method_40_code 2 (some .int) (oRs 2) := oCall.stat (oW hw 54 rfl) (oW hw 55 rfl) (oW hw 56 rfl) (oW hw 57 rfl) (by decide) pd_8
theorem d7_93 : decode prog_39_method_2_code 93 = .ok (.ireturn, 1) := by decide +kernel
theorem d7_19 : decode prog_39_method_2_code 19 = .ok (.aload_n 0, 1) := by decide +kernel
theorem d7_20 : decode prog_39_method_2_code 20 = .ok (.iload_n 3, 1) := by decide +kernel
theorem d7_21 : decode prog_39_method_2_code 21 = .ok (.invokevirtual 19, 3) := by decide +kernel
theorem pd_9 : parseMethodDescriptor "(I)C" = some ⟨[.int], some .char⟩ := by decide +kernel
theorem cs13 {a0 : Array Value} {Z : State} (hw : oHW a0 Z) : oCall Z Y8 (.invokevirtual 19) yy9 jdk_42_method_56_code 2 (some .char) (oRv Z 1 Y0) := oCall.virt (oW hw 99 rfl) (oW hw 100 rfl) (fun _ hZ => notFace_of_selects (args := #[]) (mvT hZ (oW hw 102 rfl))) (oW hw 102 rfl) (oW hw 101 rfl) (oW hw 16 rfl) (oW hw 103 rfl) (by decide) pd_9
theorem d7_24 : decode prog_39_method_2_code 24 = .ok (.istore 4, 2) := by decide +kernel
theorem d7_26 : decode prog_39_method_2_code 26 = .ok (.aload_n 1, 1) := by decide +kernel
theorem d7_27 : decode prog_39_method_2_code 27 = .ok (.iload_n 3, 1) := by decide +kernel
theorem d7_28 : decode prog_39_method_2_code 28 = .ok (.invokevirtual 19, 3) := by decide +kernel
theorem d7_31 : decode prog_39_method_2_code 31 = .ok (.istore 5, 2) := by decide +kernel
theorem d7_33 : decode prog_39_method_2_code 33 = .ok (.iload 4, 2) := by decide +kernel
theorem d7_35 : decode prog_39_method_2_code 35 = .ok (.iload 5, 2) := by decide +kernel
theorem d7_37 : decode prog_39_method_2_code 37 = .ok (.if_icmp .eq 39, 3) := by decide +kernel
theorem d7_76 : decode prog_39_method_2_code 76 = .ok (.iinc 3 1, 3) := by decide +kernel
theorem d7_79 : decode prog_39_method_2_code 79 = .ok (.goto (-65), 3) := by decide +kernel
theorem d7_40 : decode prog_39_method_2_code 40 = .ok (.iload 4, 2) := by decide +kernel
theorem d7_42 : decode prog_39_method_2_code 42 = .ok (.invokestatic 23, 3) := by decide +kernel
theorem pd_10 : parseMethodDescriptor "(C)Z" = some ⟨[.char], some .boolean⟩ := by decide +kernel
theorem cs14 {a0 : Array Value} {Z : State} (hw : oHW a0 Z) : oCall Z Y8 (.invokestatic 23) yy11 jdk_89_method_16_code 1 (some .boolean) (oRs 1) := oCall.stat (oW hw 126 rfl) (oW hw 127 rfl) (oW hw 128 rfl) (oW hw 129 rfl) (by decide) pd_10
theorem d7_45 : decode prog_39_method_2_code 45 = .ok (.istore 6, 2) := by decide +kernel
theorem d7_47 : decode prog_39_method_2_code 47 = .ok (.iload 6, 2) := by decide +kernel
theorem d7_49 : decode prog_39_method_2_code 49 = .ok (.iload 5, 2) := by decide +kernel
theorem d7_51 : decode prog_39_method_2_code 51 = .ok (.invokestatic 23, 3) := by decide +kernel
theorem d7_54 : decode prog_39_method_2_code 54 = .ok (.if_icmp .eq 14, 3) := by decide +kernel
theorem d7_68 : decode prog_39_method_2_code 68 = .ok (.iload 4, 2) := by decide +kernel
theorem d7_70 : decode prog_39_method_2_code 70 = .ok (.iload 5, 2) := by decide +kernel
theorem d7_72 : decode prog_39_method_2_code 72 = .ok (.invokestatic 29, 3) := by decide +kernel
theorem pd_11 : parseMethodDescriptor "(CC)I" = some ⟨[.char, .char], some .int⟩ := by decide +kernel
theorem cs15 {a0 : Array Value} {Z : State} (hw : oHW a0 Z) : oCall Z Y8 (.invokestatic 29) yy12 jdk_89_method_98_code 2 (some .int) (oRs 2) := oCall.stat (oW hw 137 rfl) (oW hw 138 rfl) (oW hw 128 rfl) (oW hw 139 rfl) (by decide) pd_11
theorem d7_75 : decode prog_39_method_2_code 75 = .ok (.ireturn, 1) := by decide +kernel
theorem d7_57 : decode prog_39_method_2_code 57 = .ok (.iload 6, 2) := by decide +kernel
theorem d7_59 : decode prog_39_method_2_code 59 = .ok (.ifCond .eq 7, 3) := by decide +kernel
theorem d7_62 : decode prog_39_method_2_code 62 = .ok (.iconst 1, 1) := by decide +kernel
theorem d7_63 : decode prog_39_method_2_code 63 = .ok (.goto 4, 3) := by decide +kernel
theorem d7_67 : decode prog_39_method_2_code 67 = .ok (.ireturn, 1) := by decide +kernel
theorem d7_66 : decode prog_39_method_2_code 66 = .ok (.iconst (-1), 1) := by decide +kernel
theorem rCmpT (l : Launch) (Z : State) (a0 : Array Value) (hw : oHW a0 Z) (ws : List Jvm.Cond) (xa xb : Addr) (xfm : Value) (xz : Int32) (xs ys : List Int32) (h0 : Heap) (O0 : Ext Z.heap h0) (S_Z : Sta Z Z.heap Y0 Y2 "Z" (.int xz)) (hz : ¬ xz = (0 : Int32)) (S_A : Sta Z Z.heap Y1 Y3 "Z" (.int (1 : Int32))) (S_H : Sta Z Z.heap Y1 "HI_BYTE_SHIFT" "I" (.int (0 : Int32))) (S_L : Sta Z Z.heap Y1 "LO_BYTE_SHIFT" "I" (.int (8 : Int32))) (S_F : Sta Z Z.heap Y4 Y5 Y6 xfm) (hcat : xfm.category = 1) (T_xa : oTx Z h0 xa xs) (T_xb : oTx Z h0 xb ys) (h1 : xs.length ≤ 4) (h2 : ys.length ≤ 4) :
    oCon l Z yy15 prog_39_method_2_code 7 (some .int) ws ({ frames := 5, cells := 0, slots := 0, locals := 66 } : Room) #[(.ref xa), (.ref xb)] h0 (oPq (some (.int (oCmpL xs ys))) h0) := by
  refine oCon.of (plainFor_of_name pn_6) ?_
  intro p e s m below meth c T X hx hby hml hown hnm hret hlk hZ e0
  have hml : c.maxLocals = 7 := hml
  have K : oKp h0 h0 [] [] := oKp.nil _ _
  refine oWk.cast (g' := (mkF m 0 #[rv xa, rv xb, uu, uu, uu, uu, uu] [])) (by first | rfl | (simp [entryFrame, mkF, argsToLocals, Value.category]; done)) ?_
  refine oWk.st (fun _ kt => zA X hx hby d7_0 rfl rfl rfl kt) ?_
  have Oh := K.old O0 all0
  obtain ⟨T, L2, X, e0, K, st⟩ := (cs10 hw).pure X hx hZ hown e0 K (A := [(.ref xa)]) ⟨rfl, _, _, rfl, T_xa.exa⟩ (rLnG l Z a0 hw [] xa xz xs h0 Oh S_Z hz T_xa h1) (W := 0) (by decide) hml (Ls := #[rv xa, rv xb, uu, uu, uu, uu, uu]) rfl (rest := []) rfl rfl hby d7_1
  refine oWk.st (fun _ kt => st _ (zA X hx hby d7_4 rfl rfl rfl kt)) ?_
  obtain ⟨T, L4, X, e0, K, st⟩ := (cs10 hw).pure X hx hZ hown e0 K (A := [(.ref xb)]) ⟨rfl, _, _, rfl, T_xb.exa⟩ (rLnG l Z a0 hw [] xb xz ys h0 Oh S_Z hz T_xb h2) (W := 1) (by decide) hml (Ls := #[rv xa, rv xb, uu, uu, uu, uu, uu]) rfl (rest := [(.int (Int32.ofNat xs.length))]) rfl rfl hby d7_5
  refine oWk.st (fun _ kt => st _ kt) ?_
  obtain ⟨T, L6, X, e0, K, st⟩ := (cs11 hw).pure X hx hZ hown e0 K (A := [(.int (Int32.ofNat xs.length)), (.int (Int32.ofNat ys.length))]) rfl (rMinG l Z a0 hw [] (Int32.ofNat xs.length) (Int32.ofNat ys.length) h0 Oh ) (W := 0) (by decide) hml (Ls := #[rv xa, rv xb, uu, uu, uu, uu, uu]) rfl (rest := []) rfl rfl hby d7_8
  refine oWk.to (mkF m 11 #[rv xa, rv xb, uu, uu, uu, uu, uu] [(.int (oMin (Int32.ofNat xs.length) (Int32.ofNat ys.length)))]) (fun _ kt => st _ kt) ?_
  generalize hmn : (oMin (Int32.ofNat xs.length) (Int32.ofNat ys.length)) = mn
  show oWk _ _ _ _ T (mkF m 11 #[rv xa, rv xb, uu, uu, uu, uu, uu] [(.int mn)])
  refine oWk.to (mkF m 14 #[rv xa, rv xb, iv mn, iv 0, uu, uu, uu] []) (fun _ kt => zSn X hx hby d7_11 rfl rfl (l' := #[rv xa, rv xb, iv mn, uu, uu, uu, uu]) rfl (zK X hx hby d7_12 rfl (zSn X hx hby d7_13 rfl rfl (l' := #[rv xa, rv xb, iv mn, iv 0, uu, uu, uu]) rfl kt))) ?_
  rcases xs with _ | ⟨u0, s1⟩
  · rcases ys with _ | ⟨w0, t1⟩
    · show oWk _ _ _ _ T (mkF m 14 #[rv xa, rv xb, iv mn, iv 0, uu, uu, uu] [])
      refine oWk.to (mkF m 16 #[rv xa, rv xb, iv mn, iv 0, uu, uu, uu] [(.int mn), (.int 0)]) (fun _ kt => zI X hx hby d7_14 rfl rfl (zI X hx hby d7_15 rfl rfl kt)) ?_
      refine oWk.st (fun _ kt => zY X hx hby d7_16 rfl rfl (flt (oMnF h1 h2 hmn (k := 0) (by decide) (by simp only [List.length_cons, List.length_nil]; omega))).2.1 (pc' := 82) rfl (zA X hx hby d7_82 rfl rfl rfl kt)) ?_
      obtain ⟨T, L8, X, e0, K, st⟩ := (cs10 hw).pure X hx hZ hown e0 K (A := [(.ref xa)]) ⟨rfl, _, _, rfl, T_xa.exa⟩ (rLnG l Z a0 hw [] xa xz ([]) h0 Oh S_Z hz T_xa h1) (W := 0) (by decide) hml (Ls := #[rv xa, rv xb, iv mn, iv 0, uu, uu, uu]) rfl (rest := []) rfl rfl hby d7_83
      refine oWk.st (fun _ kt => st _ (zA X hx hby d7_86 rfl rfl rfl kt)) ?_
      obtain ⟨T, L10, X, e0, K, st⟩ := (cs10 hw).pure X hx hZ hown e0 K (A := [(.ref xb)]) ⟨rfl, _, _, rfl, T_xb.exa⟩ (rLnG l Z a0 hw [] xb xz ([]) h0 Oh S_Z hz T_xb h2) (W := 1) (by decide) hml (Ls := #[rv xa, rv xb, iv mn, iv 0, uu, uu, uu]) rfl (rest := [(.int (Int32.ofNat ([]).length))]) rfl rfl hby d7_87
      refine oWk.st (fun _ kt => st _ kt) ?_
      obtain ⟨T, L12, X, e0, K, st⟩ := (cs12 hw).pure X hx hZ hown e0 K (A := [(.int (Int32.ofNat ([]).length)), (.int (Int32.ofNat ([]).length))]) rfl (rICG l Z a0 hw [] (Int32.ofNat ([]).length) (Int32.ofNat ([]).length) h0 Oh ) (W := 0) (by decide) hml (Ls := #[rv xa, rv xb, iv mn, iv 0, uu, uu, uu]) rfl (rest := []) rfl rfl hby d7_90
      refine oWk.to (mkF m 93 #[rv xa, rv xb, iv mn, iv 0, uu, uu, uu] [(.int (oIc (Int32.ofNat ([]).length) (Int32.ofNat ([]).length)))]) (fun _ kt => st _ kt) ?_
      exact oRetI X hx hlk hret (hb hby d7_93) (by rw [e0]; exact ⟨(by show _ = some (Value.int (oCmpL ([]) ([]))); rfl), rfl, K⟩) (by decide) (by decide)
    · show oWk _ _ _ _ T (mkF m 14 #[rv xa, rv xb, iv mn, iv 0, uu, uu, uu] [])
      refine oWk.to (mkF m 16 #[rv xa, rv xb, iv mn, iv 0, uu, uu, uu] [(.int mn), (.int 0)]) (fun _ kt => zI X hx hby d7_14 rfl rfl (zI X hx hby d7_15 rfl rfl kt)) ?_
      refine oWk.st (fun _ kt => zY X hx hby d7_16 rfl rfl (flt (oMnF h1 h2 hmn (k := 0) (by decide) (by simp only [List.length_cons, List.length_nil]; omega))).2.1 (pc' := 82) rfl (zA X hx hby d7_82 rfl rfl rfl kt)) ?_
      obtain ⟨T, L14, X, e0, K, st⟩ := (cs10 hw).pure X hx hZ hown e0 K (A := [(.ref xa)]) ⟨rfl, _, _, rfl, T_xa.exa⟩ (rLnG l Z a0 hw [] xa xz ([]) h0 Oh S_Z hz T_xa h1) (W := 0) (by decide) hml (Ls := #[rv xa, rv xb, iv mn, iv 0, uu, uu, uu]) rfl (rest := []) rfl rfl hby d7_83
      refine oWk.st (fun _ kt => st _ (zA X hx hby d7_86 rfl rfl rfl kt)) ?_
      obtain ⟨T, L16, X, e0, K, st⟩ := (cs10 hw).pure X hx hZ hown e0 K (A := [(.ref xb)]) ⟨rfl, _, _, rfl, T_xb.exa⟩ (rLnG l Z a0 hw [] xb xz (w0 :: t1) h0 Oh S_Z hz T_xb h2) (W := 1) (by decide) hml (Ls := #[rv xa, rv xb, iv mn, iv 0, uu, uu, uu]) rfl (rest := [(.int (Int32.ofNat ([]).length))]) rfl rfl hby d7_87
      refine oWk.st (fun _ kt => st _ kt) ?_
      obtain ⟨T, L18, X, e0, K, st⟩ := (cs12 hw).pure X hx hZ hown e0 K (A := [(.int (Int32.ofNat ([]).length)), (.int (Int32.ofNat (w0 :: t1).length))]) rfl (rICG l Z a0 hw [] (Int32.ofNat ([]).length) (Int32.ofNat (w0 :: t1).length) h0 Oh ) (W := 0) (by decide) hml (Ls := #[rv xa, rv xb, iv mn, iv 0, uu, uu, uu]) rfl (rest := []) rfl rfl hby d7_90
      refine oWk.to (mkF m 93 #[rv xa, rv xb, iv mn, iv 0, uu, uu, uu] [(.int (oIc (Int32.ofNat ([]).length) (Int32.ofNat (w0 :: t1).length)))]) (fun _ kt => st _ kt) ?_
      exact oRetI X hx hlk hret (hb hby d7_93) (by rw [e0]; exact ⟨(by show _ = some (Value.int (oCmpL ([]) (w0 :: t1))); exact congrArg (fun z => some (Value.int z)) (oIcL h1 h2 (by simp only [List.length_cons, List.length_nil]; omega))), rfl, K⟩) (by decide) (by decide)
  · rcases ys with _ | ⟨w0, t1⟩
    · show oWk _ _ _ _ T (mkF m 14 #[rv xa, rv xb, iv mn, iv 0, uu, uu, uu] [])
      refine oWk.to (mkF m 16 #[rv xa, rv xb, iv mn, iv 0, uu, uu, uu] [(.int mn), (.int 0)]) (fun _ kt => zI X hx hby d7_14 rfl rfl (zI X hx hby d7_15 rfl rfl kt)) ?_
      refine oWk.st (fun _ kt => zY X hx hby d7_16 rfl rfl (flt (oMnF h1 h2 hmn (k := 0) (by decide) (by simp only [List.length_cons, List.length_nil]; omega))).2.1 (pc' := 82) rfl (zA X hx hby d7_82 rfl rfl rfl kt)) ?_
      obtain ⟨T, L20, X, e0, K, st⟩ := (cs10 hw).pure X hx hZ hown e0 K (A := [(.ref xa)]) ⟨rfl, _, _, rfl, T_xa.exa⟩ (rLnG l Z a0 hw [] xa xz (u0 :: s1) h0 Oh S_Z hz T_xa h1) (W := 0) (by decide) hml (Ls := #[rv xa, rv xb, iv mn, iv 0, uu, uu, uu]) rfl (rest := []) rfl rfl hby d7_83
      refine oWk.st (fun _ kt => st _ (zA X hx hby d7_86 rfl rfl rfl kt)) ?_
      obtain ⟨T, L22, X, e0, K, st⟩ := (cs10 hw).pure X hx hZ hown e0 K (A := [(.ref xb)]) ⟨rfl, _, _, rfl, T_xb.exa⟩ (rLnG l Z a0 hw [] xb xz ([]) h0 Oh S_Z hz T_xb h2) (W := 1) (by decide) hml (Ls := #[rv xa, rv xb, iv mn, iv 0, uu, uu, uu]) rfl (rest := [(.int (Int32.ofNat (u0 :: s1).length))]) rfl rfl hby d7_87
      refine oWk.st (fun _ kt => st _ kt) ?_
      obtain ⟨T, L24, X, e0, K, st⟩ := (cs12 hw).pure X hx hZ hown e0 K (A := [(.int (Int32.ofNat (u0 :: s1).length)), (.int (Int32.ofNat ([]).length))]) rfl (rICG l Z a0 hw [] (Int32.ofNat (u0 :: s1).length) (Int32.ofNat ([]).length) h0 Oh ) (W := 0) (by decide) hml (Ls := #[rv xa, rv xb, iv mn, iv 0, uu, uu, uu]) rfl (rest := []) rfl rfl hby d7_90
      refine oWk.to (mkF m 93 #[rv xa, rv xb, iv mn, iv 0, uu, uu, uu] [(.int (oIc (Int32.ofNat (u0 :: s1).length) (Int32.ofNat ([]).length)))]) (fun _ kt => st _ kt) ?_
      exact oRetI X hx hlk hret (hb hby d7_93) (by rw [e0]; exact ⟨(by show _ = some (Value.int (oCmpL (u0 :: s1) ([]))); exact congrArg (fun z => some (Value.int z)) (oIcG h1 h2 (by simp only [List.length_cons, List.length_nil]; omega))), rfl, K⟩) (by decide) (by decide)
    · show oWk _ _ _ _ T (mkF m 14 #[rv xa, rv xb, iv mn, iv 0, uu, uu, uu] [])
      refine oWk.to (mkF m 16 #[rv xa, rv xb, iv mn, iv 0, uu, uu, uu] [(.int mn), (.int 0)]) (fun _ kt => zI X hx hby d7_14 rfl rfl (zI X hx hby d7_15 rfl rfl kt)) ?_
      refine oWk.st (fun _ kt => zN X hx hby d7_16 rfl rfl (tlt (oMnT h1 h2 hmn (k := 0) (by decide) (by simp only [List.length_cons, List.length_nil]; omega))).2.1 (zA X hx hby d7_19 rfl rfl rfl (zI X hx hby d7_20 rfl rfl kt))) ?_
      obtain ⟨T, L26, X, e0, K, st⟩ := (cs13 hw).pure X hx hZ hown e0 K (A := [(.ref xa), (.int (0 : Int32))]) ⟨rfl, _, _, rfl, T_xa.exa⟩ (rCAG_0 l Z a0 hw [] xa xfm xz (u0 :: s1) u0 h0 Oh S_Z hz S_A S_H S_L S_F hcat T_xa h1 rfl) (W := 0) (by decide) hml (Ls := #[rv xa, rv xb, iv mn, iv 0, uu, uu, uu]) rfl (rest := []) rfl rfl hby d7_21
      refine oWk.st (fun _ kt => st _ (zS X hx hby d7_24 rfl rfl (l' := #[rv xa, rv xb, iv mn, iv 0, iv u0, uu, uu]) rfl (zA X hx hby d7_26 rfl rfl rfl (zI X hx hby d7_27 rfl rfl kt)))) ?_
      obtain ⟨T, L28, X, e0, K, st⟩ := (cs13 hw).pure X hx hZ hown e0 K (A := [(.ref xb), (.int (0 : Int32))]) ⟨rfl, _, _, rfl, T_xb.exa⟩ (rCAG_0 l Z a0 hw [] xb xfm xz (w0 :: t1) w0 h0 Oh S_Z hz S_A S_H S_L S_F hcat T_xb h2 rfl) (W := 0) (by decide) hml (Ls := #[rv xa, rv xb, iv mn, iv 0, iv u0, uu, uu]) rfl (rest := []) rfl rfl hby d7_28
      refine oWk.to (mkF m 37 #[rv xa, rv xb, iv mn, iv 0, iv u0, iv w0, uu] [(.int w0), (.int u0)]) (fun _ kt => st _ (zS X hx hby d7_31 rfl rfl (l' := #[rv xa, rv xb, iv mn, iv 0, iv u0, iv w0, uu]) rfl (zJ X hx hby d7_33 rfl rfl (zJ X hx hby d7_35 rfl rfl kt)))) ?_
      by_cases he0 : u0 = w0
      · refine oWk.to (mkF m 76 #[rv xa, rv xb, iv mn, iv 0, iv u0, iv w0, uu] []) (fun _ kt => zY X hx hby d7_37 rfl rfl (teq he0).1 (pc' := 76) rfl kt) ?_
        refine oWk.to (mkF m 14 #[rv xa, rv xb, iv mn, iv 1, iv u0, iv w0, uu] []) (fun _ kt => zC X hx hby d7_76 rfl rfl (l' := #[rv xa, rv xb, iv mn, iv ((0 : Int32) + (1 : Int32)), iv u0, iv w0, uu]) rfl (zG X hx hby d7_79 rfl (pc' := 14) rfl kt)) ?_
        rcases s1 with _ | ⟨u1, s2⟩
        · rcases t1 with _ | ⟨w1, t2⟩
          · show oWk _ _ _ _ T (mkF m 14 #[rv xa, rv xb, iv mn, iv 1, iv u0, iv w0, uu] [])
            refine oWk.to (mkF m 16 #[rv xa, rv xb, iv mn, iv 1, iv u0, iv w0, uu] [(.int mn), (.int 1)]) (fun _ kt => zI X hx hby d7_14 rfl rfl (zI X hx hby d7_15 rfl rfl kt)) ?_
            refine oWk.st (fun _ kt => zY X hx hby d7_16 rfl rfl (flt (oMnF h1 h2 hmn (k := 1) (by decide) (by simp only [List.length_cons, List.length_nil]; omega))).2.1 (pc' := 82) rfl (zA X hx hby d7_82 rfl rfl rfl kt)) ?_
            obtain ⟨T, L30, X, e0, K, st⟩ := (cs10 hw).pure X hx hZ hown e0 K (A := [(.ref xa)]) ⟨rfl, _, _, rfl, T_xa.exa⟩ (rLnG l Z a0 hw [] xa xz (u0 :: []) h0 Oh S_Z hz T_xa h1) (W := 0) (by decide) hml (Ls := #[rv xa, rv xb, iv mn, iv 1, iv u0, iv w0, uu]) rfl (rest := []) rfl rfl hby d7_83
            refine oWk.st (fun _ kt => st _ (zA X hx hby d7_86 rfl rfl rfl kt)) ?_
            obtain ⟨T, L32, X, e0, K, st⟩ := (cs10 hw).pure X hx hZ hown e0 K (A := [(.ref xb)]) ⟨rfl, _, _, rfl, T_xb.exa⟩ (rLnG l Z a0 hw [] xb xz (w0 :: []) h0 Oh S_Z hz T_xb h2) (W := 1) (by decide) hml (Ls := #[rv xa, rv xb, iv mn, iv 1, iv u0, iv w0, uu]) rfl (rest := [(.int (Int32.ofNat (u0 :: []).length))]) rfl rfl hby d7_87
            refine oWk.st (fun _ kt => st _ kt) ?_
            obtain ⟨T, L34, X, e0, K, st⟩ := (cs12 hw).pure X hx hZ hown e0 K (A := [(.int (Int32.ofNat (u0 :: []).length)), (.int (Int32.ofNat (w0 :: []).length))]) rfl (rICG l Z a0 hw [] (Int32.ofNat (u0 :: []).length) (Int32.ofNat (w0 :: []).length) h0 Oh ) (W := 0) (by decide) hml (Ls := #[rv xa, rv xb, iv mn, iv 1, iv u0, iv w0, uu]) rfl (rest := []) rfl rfl hby d7_90
            refine oWk.to (mkF m 93 #[rv xa, rv xb, iv mn, iv 1, iv u0, iv w0, uu] [(.int (oIc (Int32.ofNat (u0 :: []).length) (Int32.ofNat (w0 :: []).length)))]) (fun _ kt => st _ kt) ?_
            exact oRetI X hx hlk hret (hb hby d7_93) (by rw [e0]; exact ⟨(by show _ = some (Value.int (oCmpL (u0 :: []) (w0 :: []))); rw [oCmpL_eq he0]; rfl), rfl, K⟩) (by decide) (by decide)
          · show oWk _ _ _ _ T (mkF m 14 #[rv xa, rv xb, iv mn, iv 1, iv u0, iv w0, uu] [])
            refine oWk.to (mkF m 16 #[rv xa, rv xb, iv mn, iv 1, iv u0, iv w0, uu] [(.int mn), (.int 1)]) (fun _ kt => zI X hx hby d7_14 rfl rfl (zI X hx hby d7_15 rfl rfl kt)) ?_
            refine oWk.st (fun _ kt => zY X hx hby d7_16 rfl rfl (flt (oMnF h1 h2 hmn (k := 1) (by decide) (by simp only [List.length_cons, List.length_nil]; omega))).2.1 (pc' := 82) rfl (zA X hx hby d7_82 rfl rfl rfl kt)) ?_
            obtain ⟨T, L36, X, e0, K, st⟩ := (cs10 hw).pure X hx hZ hown e0 K (A := [(.ref xa)]) ⟨rfl, _, _, rfl, T_xa.exa⟩ (rLnG l Z a0 hw [] xa xz (u0 :: []) h0 Oh S_Z hz T_xa h1) (W := 0) (by decide) hml (Ls := #[rv xa, rv xb, iv mn, iv 1, iv u0, iv w0, uu]) rfl (rest := []) rfl rfl hby d7_83
            refine oWk.st (fun _ kt => st _ (zA X hx hby d7_86 rfl rfl rfl kt)) ?_
            obtain ⟨T, L38, X, e0, K, st⟩ := (cs10 hw).pure X hx hZ hown e0 K (A := [(.ref xb)]) ⟨rfl, _, _, rfl, T_xb.exa⟩ (rLnG l Z a0 hw [] xb xz (w0 :: w1 :: t2) h0 Oh S_Z hz T_xb h2) (W := 1) (by decide) hml (Ls := #[rv xa, rv xb, iv mn, iv 1, iv u0, iv w0, uu]) rfl (rest := [(.int (Int32.ofNat (u0 :: []).length))]) rfl rfl hby d7_87
            refine oWk.st (fun _ kt => st _ kt) ?_
            obtain ⟨T, L40, X, e0, K, st⟩ := (cs12 hw).pure X hx hZ hown e0 K (A := [(.int (Int32.ofNat (u0 :: []).length)), (.int (Int32.ofNat (w0 :: w1 :: t2).length))]) rfl (rICG l Z a0 hw [] (Int32.ofNat (u0 :: []).length) (Int32.ofNat (w0 :: w1 :: t2).length) h0 Oh ) (W := 0) (by decide) hml (Ls := #[rv xa, rv xb, iv mn, iv 1, iv u0, iv w0, uu]) rfl (rest := []) rfl rfl hby d7_90
            refine oWk.to (mkF m 93 #[rv xa, rv xb, iv mn, iv 1, iv u0, iv w0, uu] [(.int (oIc (Int32.ofNat (u0 :: []).length) (Int32.ofNat (w0 :: w1 :: t2).length)))]) (fun _ kt => st _ kt) ?_
            exact oRetI X hx hlk hret (hb hby d7_93) (by rw [e0]; exact ⟨(by show _ = some (Value.int (oCmpL (u0 :: []) (w0 :: w1 :: t2))); rw [oCmpL_eq he0]; exact congrArg (fun z => some (Value.int z)) (oIcL h1 h2 (by simp only [List.length_cons, List.length_nil]; omega))), rfl, K⟩) (by decide) (by decide)
        · rcases t1 with _ | ⟨w1, t2⟩
          · show oWk _ _ _ _ T (mkF m 14 #[rv xa, rv xb, iv mn, iv 1, iv u0, iv w0, uu] [])
            refine oWk.to (mkF m 16 #[rv xa, rv xb, iv mn, iv 1, iv u0, iv w0, uu] [(.int mn), (.int 1)]) (fun _ kt => zI X hx hby d7_14 rfl rfl (zI X hx hby d7_15 rfl rfl kt)) ?_
            refine oWk.st (fun _ kt => zY X hx hby d7_16 rfl rfl (flt (oMnF h1 h2 hmn (k := 1) (by decide) (by simp only [List.length_cons, List.length_nil]; omega))).2.1 (pc' := 82) rfl (zA X hx hby d7_82 rfl rfl rfl kt)) ?_
            obtain ⟨T, L42, X, e0, K, st⟩ := (cs10 hw).pure X hx hZ hown e0 K (A := [(.ref xa)]) ⟨rfl, _, _, rfl, T_xa.exa⟩ (rLnG l Z a0 hw [] xa xz (u0 :: u1 :: s2) h0 Oh S_Z hz T_xa h1) (W := 0) (by decide) hml (Ls := #[rv xa, rv xb, iv mn, iv 1, iv u0, iv w0, uu]) rfl (rest := []) rfl rfl hby d7_83
            refine oWk.st (fun _ kt => st _ (zA X hx hby d7_86 rfl rfl rfl kt)) ?_
            obtain ⟨T, L44, X, e0, K, st⟩ := (cs10 hw).pure X hx hZ hown e0 K (A := [(.ref xb)]) ⟨rfl, _, _, rfl, T_xb.exa⟩ (rLnG l Z a0 hw [] xb xz (w0 :: []) h0 Oh S_Z hz T_xb h2) (W := 1) (by decide) hml (Ls := #[rv xa, rv xb, iv mn, iv 1, iv u0, iv w0, uu]) rfl (rest := [(.int (Int32.ofNat (u0 :: u1 :: s2).length))]) rfl rfl hby d7_87
            refine oWk.st (fun _ kt => st _ kt) ?_
            obtain ⟨T, L46, X, e0, K, st⟩ := (cs12 hw).pure X hx hZ hown e0 K (A := [(.int (Int32.ofNat (u0 :: u1 :: s2).length)), (.int (Int32.ofNat (w0 :: []).length))]) rfl (rICG l Z a0 hw [] (Int32.ofNat (u0 :: u1 :: s2).length) (Int32.ofNat (w0 :: []).length) h0 Oh ) (W := 0) (by decide) hml (Ls := #[rv xa, rv xb, iv mn, iv 1, iv u0, iv w0, uu]) rfl (rest := []) rfl rfl hby d7_90
            refine oWk.to (mkF m 93 #[rv xa, rv xb, iv mn, iv 1, iv u0, iv w0, uu] [(.int (oIc (Int32.ofNat (u0 :: u1 :: s2).length) (Int32.ofNat (w0 :: []).length)))]) (fun _ kt => st _ kt) ?_
            exact oRetI X hx hlk hret (hb hby d7_93) (by rw [e0]; exact ⟨(by show _ = some (Value.int (oCmpL (u0 :: u1 :: s2) (w0 :: []))); rw [oCmpL_eq he0]; exact congrArg (fun z => some (Value.int z)) (oIcG h1 h2 (by simp only [List.length_cons, List.length_nil]; omega))), rfl, K⟩) (by decide) (by decide)
          · show oWk _ _ _ _ T (mkF m 14 #[rv xa, rv xb, iv mn, iv 1, iv u0, iv w0, uu] [])
            refine oWk.to (mkF m 16 #[rv xa, rv xb, iv mn, iv 1, iv u0, iv w0, uu] [(.int mn), (.int 1)]) (fun _ kt => zI X hx hby d7_14 rfl rfl (zI X hx hby d7_15 rfl rfl kt)) ?_
            refine oWk.st (fun _ kt => zN X hx hby d7_16 rfl rfl (tlt (oMnT h1 h2 hmn (k := 1) (by decide) (by simp only [List.length_cons, List.length_nil]; omega))).2.1 (zA X hx hby d7_19 rfl rfl rfl (zI X hx hby d7_20 rfl rfl kt))) ?_
            obtain ⟨T, L48, X, e0, K, st⟩ := (cs13 hw).pure X hx hZ hown e0 K (A := [(.ref xa), (.int (1 : Int32))]) ⟨rfl, _, _, rfl, T_xa.exa⟩ (rCAG_1 l Z a0 hw [] xa xfm xz (u0 :: u1 :: s2) u1 h0 Oh S_Z hz S_A S_H S_L S_F hcat T_xa h1 rfl) (W := 0) (by decide) hml (Ls := #[rv xa, rv xb, iv mn, iv 1, iv u0, iv w0, uu]) rfl (rest := []) rfl rfl hby d7_21
            refine oWk.st (fun _ kt => st _ (zS X hx hby d7_24 rfl rfl (l' := #[rv xa, rv xb, iv mn, iv 1, iv u1, iv w0, uu]) rfl (zA X hx hby d7_26 rfl rfl rfl (zI X hx hby d7_27 rfl rfl kt)))) ?_
            obtain ⟨T, L50, X, e0, K, st⟩ := (cs13 hw).pure X hx hZ hown e0 K (A := [(.ref xb), (.int (1 : Int32))]) ⟨rfl, _, _, rfl, T_xb.exa⟩ (rCAG_1 l Z a0 hw [] xb xfm xz (w0 :: w1 :: t2) w1 h0 Oh S_Z hz S_A S_H S_L S_F hcat T_xb h2 rfl) (W := 0) (by decide) hml (Ls := #[rv xa, rv xb, iv mn, iv 1, iv u1, iv w0, uu]) rfl (rest := []) rfl rfl hby d7_28
            refine oWk.to (mkF m 37 #[rv xa, rv xb, iv mn, iv 1, iv u1, iv w1, uu] [(.int w1), (.int u1)]) (fun _ kt => st _ (zS X hx hby d7_31 rfl rfl (l' := #[rv xa, rv xb, iv mn, iv 1, iv u1, iv w1, uu]) rfl (zJ X hx hby d7_33 rfl rfl (zJ X hx hby d7_35 rfl rfl kt)))) ?_
            by_cases he1 : u1 = w1
            · refine oWk.to (mkF m 76 #[rv xa, rv xb, iv mn, iv 1, iv u1, iv w1, uu] []) (fun _ kt => zY X hx hby d7_37 rfl rfl (teq he1).1 (pc' := 76) rfl kt) ?_
              refine oWk.to (mkF m 14 #[rv xa, rv xb, iv mn, iv 2, iv u1, iv w1, uu] []) (fun _ kt => zC X hx hby d7_76 rfl rfl (l' := #[rv xa, rv xb, iv mn, iv ((1 : Int32) + (1 : Int32)), iv u1, iv w1, uu]) rfl (zG X hx hby d7_79 rfl (pc' := 14) rfl kt)) ?_
              rcases s2 with _ | ⟨u2, s3⟩
              · rcases t2 with _ | ⟨w2, t3⟩
                · show oWk _ _ _ _ T (mkF m 14 #[rv xa, rv xb, iv mn, iv 2, iv u1, iv w1, uu] [])
                  refine oWk.to (mkF m 16 #[rv xa, rv xb, iv mn, iv 2, iv u1, iv w1, uu] [(.int mn), (.int 2)]) (fun _ kt => zI X hx hby d7_14 rfl rfl (zI X hx hby d7_15 rfl rfl kt)) ?_
                  refine oWk.st (fun _ kt => zY X hx hby d7_16 rfl rfl (flt (oMnF h1 h2 hmn (k := 2) (by decide) (by simp only [List.length_cons, List.length_nil]; omega))).2.1 (pc' := 82) rfl (zA X hx hby d7_82 rfl rfl rfl kt)) ?_
                  obtain ⟨T, L52, X, e0, K, st⟩ := (cs10 hw).pure X hx hZ hown e0 K (A := [(.ref xa)]) ⟨rfl, _, _, rfl, T_xa.exa⟩ (rLnG l Z a0 hw [] xa xz (u0 :: u1 :: []) h0 Oh S_Z hz T_xa h1) (W := 0) (by decide) hml (Ls := #[rv xa, rv xb, iv mn, iv 2, iv u1, iv w1, uu]) rfl (rest := []) rfl rfl hby d7_83
                  refine oWk.st (fun _ kt => st _ (zA X hx hby d7_86 rfl rfl rfl kt)) ?_
                  obtain ⟨T, L54, X, e0, K, st⟩ := (cs10 hw).pure X hx hZ hown e0 K (A := [(.ref xb)]) ⟨rfl, _, _, rfl, T_xb.exa⟩ (rLnG l Z a0 hw [] xb xz (w0 :: w1 :: []) h0 Oh S_Z hz T_xb h2) (W := 1) (by decide) hml (Ls := #[rv xa, rv xb, iv mn, iv 2, iv u1, iv w1, uu]) rfl (rest := [(.int (Int32.ofNat (u0 :: u1 :: []).length))]) rfl rfl hby d7_87
                  refine oWk.st (fun _ kt => st _ kt) ?_
                  obtain ⟨T, L56, X, e0, K, st⟩ := (cs12 hw).pure X hx hZ hown e0 K (A := [(.int (Int32.ofNat (u0 :: u1 :: []).length)), (.int (Int32.ofNat (w0 :: w1 :: []).length))]) rfl (rICG l Z a0 hw [] (Int32.ofNat (u0 :: u1 :: []).length) (Int32.ofNat (w0 :: w1 :: []).length) h0 Oh ) (W := 0) (by decide) hml (Ls := #[rv xa, rv xb, iv mn, iv 2, iv u1, iv w1, uu]) rfl (rest := []) rfl rfl hby d7_90
                  refine oWk.to (mkF m 93 #[rv xa, rv xb, iv mn, iv 2, iv u1, iv w1, uu] [(.int (oIc (Int32.ofNat (u0 :: u1 :: []).length) (Int32.ofNat (w0 :: w1 :: []).length)))]) (fun _ kt => st _ kt) ?_
                  exact oRetI X hx hlk hret (hb hby d7_93) (by rw [e0]; exact ⟨(by show _ = some (Value.int (oCmpL (u0 :: u1 :: []) (w0 :: w1 :: []))); rw [oCmpL_eq he0, oCmpL_eq he1]; rfl), rfl, K⟩) (by decide) (by decide)
                · show oWk _ _ _ _ T (mkF m 14 #[rv xa, rv xb, iv mn, iv 2, iv u1, iv w1, uu] [])
                  refine oWk.to (mkF m 16 #[rv xa, rv xb, iv mn, iv 2, iv u1, iv w1, uu] [(.int mn), (.int 2)]) (fun _ kt => zI X hx hby d7_14 rfl rfl (zI X hx hby d7_15 rfl rfl kt)) ?_
                  refine oWk.st (fun _ kt => zY X hx hby d7_16 rfl rfl (flt (oMnF h1 h2 hmn (k := 2) (by decide) (by simp only [List.length_cons, List.length_nil]; omega))).2.1 (pc' := 82) rfl (zA X hx hby d7_82 rfl rfl rfl kt)) ?_
                  obtain ⟨T, L58, X, e0, K, st⟩ := (cs10 hw).pure X hx hZ hown e0 K (A := [(.ref xa)]) ⟨rfl, _, _, rfl, T_xa.exa⟩ (rLnG l Z a0 hw [] xa xz (u0 :: u1 :: []) h0 Oh S_Z hz T_xa h1) (W := 0) (by decide) hml (Ls := #[rv xa, rv xb, iv mn, iv 2, iv u1, iv w1, uu]) rfl (rest := []) rfl rfl hby d7_83
                  refine oWk.st (fun _ kt => st _ (zA X hx hby d7_86 rfl rfl rfl kt)) ?_
                  obtain ⟨T, L60, X, e0, K, st⟩ := (cs10 hw).pure X hx hZ hown e0 K (A := [(.ref xb)]) ⟨rfl, _, _, rfl, T_xb.exa⟩ (rLnG l Z a0 hw [] xb xz (w0 :: w1 :: w2 :: t3) h0 Oh S_Z hz T_xb h2) (W := 1) (by decide) hml (Ls := #[rv xa, rv xb, iv mn, iv 2, iv u1, iv w1, uu]) rfl (rest := [(.int (Int32.ofNat (u0 :: u1 :: []).length))]) rfl rfl hby d7_87
                  refine oWk.st (fun _ kt => st _ kt) ?_
                  obtain ⟨T, L62, X, e0, K, st⟩ := (cs12 hw).pure X hx hZ hown e0 K (A := [(.int (Int32.ofNat (u0 :: u1 :: []).length)), (.int (Int32.ofNat (w0 :: w1 :: w2 :: t3).length))]) rfl (rICG l Z a0 hw [] (Int32.ofNat (u0 :: u1 :: []).length) (Int32.ofNat (w0 :: w1 :: w2 :: t3).length) h0 Oh ) (W := 0) (by decide) hml (Ls := #[rv xa, rv xb, iv mn, iv 2, iv u1, iv w1, uu]) rfl (rest := []) rfl rfl hby d7_90
                  refine oWk.to (mkF m 93 #[rv xa, rv xb, iv mn, iv 2, iv u1, iv w1, uu] [(.int (oIc (Int32.ofNat (u0 :: u1 :: []).length) (Int32.ofNat (w0 :: w1 :: w2 :: t3).length)))]) (fun _ kt => st _ kt) ?_
                  exact oRetI X hx hlk hret (hb hby d7_93) (by rw [e0]; exact ⟨(by show _ = some (Value.int (oCmpL (u0 :: u1 :: []) (w0 :: w1 :: w2 :: t3))); rw [oCmpL_eq he0, oCmpL_eq he1]; exact congrArg (fun z => some (Value.int z)) (oIcL h1 h2 (by simp only [List.length_cons, List.length_nil]; omega))), rfl, K⟩) (by decide) (by decide)
              · rcases t2 with _ | ⟨w2, t3⟩
                · show oWk _ _ _ _ T (mkF m 14 #[rv xa, rv xb, iv mn, iv 2, iv u1, iv w1, uu] [])
                  refine oWk.to (mkF m 16 #[rv xa, rv xb, iv mn, iv 2, iv u1, iv w1, uu] [(.int mn), (.int 2)]) (fun _ kt => zI X hx hby d7_14 rfl rfl (zI X hx hby d7_15 rfl rfl kt)) ?_
                  refine oWk.st (fun _ kt => zY X hx hby d7_16 rfl rfl (flt (oMnF h1 h2 hmn (k := 2) (by decide) (by simp only [List.length_cons, List.length_nil]; omega))).2.1 (pc' := 82) rfl (zA X hx hby d7_82 rfl rfl rfl kt)) ?_
                  obtain ⟨T, L64, X, e0, K, st⟩ := (cs10 hw).pure X hx hZ hown e0 K (A := [(.ref xa)]) ⟨rfl, _, _, rfl, T_xa.exa⟩ (rLnG l Z a0 hw [] xa xz (u0 :: u1 :: u2 :: s3) h0 Oh S_Z hz T_xa h1) (W := 0) (by decide) hml (Ls := #[rv xa, rv xb, iv mn, iv 2, iv u1, iv w1, uu]) rfl (rest := []) rfl rfl hby d7_83
                  refine oWk.st (fun _ kt => st _ (zA X hx hby d7_86 rfl rfl rfl kt)) ?_
                  obtain ⟨T, L66, X, e0, K, st⟩ := (cs10 hw).pure X hx hZ hown e0 K (A := [(.ref xb)]) ⟨rfl, _, _, rfl, T_xb.exa⟩ (rLnG l Z a0 hw [] xb xz (w0 :: w1 :: []) h0 Oh S_Z hz T_xb h2) (W := 1) (by decide) hml (Ls := #[rv xa, rv xb, iv mn, iv 2, iv u1, iv w1, uu]) rfl (rest := [(.int (Int32.ofNat (u0 :: u1 :: u2 :: s3).length))]) rfl rfl hby d7_87
                  refine oWk.st (fun _ kt => st _ kt) ?_
                  obtain ⟨T, L68, X, e0, K, st⟩ := (cs12 hw).pure X hx hZ hown e0 K (A := [(.int (Int32.ofNat (u0 :: u1 :: u2 :: s3).length)), (.int (Int32.ofNat (w0 :: w1 :: []).length))]) rfl (rICG l Z a0 hw [] (Int32.ofNat (u0 :: u1 :: u2 :: s3).length) (Int32.ofNat (w0 :: w1 :: []).length) h0 Oh ) (W := 0) (by decide) hml (Ls := #[rv xa, rv xb, iv mn, iv 2, iv u1, iv w1, uu]) rfl (rest := []) rfl rfl hby d7_90
                  refine oWk.to (mkF m 93 #[rv xa, rv xb, iv mn, iv 2, iv u1, iv w1, uu] [(.int (oIc (Int32.ofNat (u0 :: u1 :: u2 :: s3).length) (Int32.ofNat (w0 :: w1 :: []).length)))]) (fun _ kt => st _ kt) ?_
                  exact oRetI X hx hlk hret (hb hby d7_93) (by rw [e0]; exact ⟨(by show _ = some (Value.int (oCmpL (u0 :: u1 :: u2 :: s3) (w0 :: w1 :: []))); rw [oCmpL_eq he0, oCmpL_eq he1]; exact congrArg (fun z => some (Value.int z)) (oIcG h1 h2 (by simp only [List.length_cons, List.length_nil]; omega))), rfl, K⟩) (by decide) (by decide)
                · show oWk _ _ _ _ T (mkF m 14 #[rv xa, rv xb, iv mn, iv 2, iv u1, iv w1, uu] [])
                  refine oWk.to (mkF m 16 #[rv xa, rv xb, iv mn, iv 2, iv u1, iv w1, uu] [(.int mn), (.int 2)]) (fun _ kt => zI X hx hby d7_14 rfl rfl (zI X hx hby d7_15 rfl rfl kt)) ?_
                  refine oWk.st (fun _ kt => zN X hx hby d7_16 rfl rfl (tlt (oMnT h1 h2 hmn (k := 2) (by decide) (by simp only [List.length_cons, List.length_nil]; omega))).2.1 (zA X hx hby d7_19 rfl rfl rfl (zI X hx hby d7_20 rfl rfl kt))) ?_
                  obtain ⟨T, L70, X, e0, K, st⟩ := (cs13 hw).pure X hx hZ hown e0 K (A := [(.ref xa), (.int (2 : Int32))]) ⟨rfl, _, _, rfl, T_xa.exa⟩ (rCAG_2 l Z a0 hw [] xa xfm xz (u0 :: u1 :: u2 :: s3) u2 h0 Oh S_Z hz S_A S_H S_L S_F hcat T_xa h1 rfl) (W := 0) (by decide) hml (Ls := #[rv xa, rv xb, iv mn, iv 2, iv u1, iv w1, uu]) rfl (rest := []) rfl rfl hby d7_21
                  refine oWk.st (fun _ kt => st _ (zS X hx hby d7_24 rfl rfl (l' := #[rv xa, rv xb, iv mn, iv 2, iv u2, iv w1, uu]) rfl (zA X hx hby d7_26 rfl rfl rfl (zI X hx hby d7_27 rfl rfl kt)))) ?_
                  obtain ⟨T, L72, X, e0, K, st⟩ := (cs13 hw).pure X hx hZ hown e0 K (A := [(.ref xb), (.int (2 : Int32))]) ⟨rfl, _, _, rfl, T_xb.exa⟩ (rCAG_2 l Z a0 hw [] xb xfm xz (w0 :: w1 :: w2 :: t3) w2 h0 Oh S_Z hz S_A S_H S_L S_F hcat T_xb h2 rfl) (W := 0) (by decide) hml (Ls := #[rv xa, rv xb, iv mn, iv 2, iv u2, iv w1, uu]) rfl (rest := []) rfl rfl hby d7_28
                  refine oWk.to (mkF m 37 #[rv xa, rv xb, iv mn, iv 2, iv u2, iv w2, uu] [(.int w2), (.int u2)]) (fun _ kt => st _ (zS X hx hby d7_31 rfl rfl (l' := #[rv xa, rv xb, iv mn, iv 2, iv u2, iv w2, uu]) rfl (zJ X hx hby d7_33 rfl rfl (zJ X hx hby d7_35 rfl rfl kt)))) ?_
                  by_cases he2 : u2 = w2
                  · refine oWk.to (mkF m 76 #[rv xa, rv xb, iv mn, iv 2, iv u2, iv w2, uu] []) (fun _ kt => zY X hx hby d7_37 rfl rfl (teq he2).1 (pc' := 76) rfl kt) ?_
                    refine oWk.to (mkF m 14 #[rv xa, rv xb, iv mn, iv 3, iv u2, iv w2, uu] []) (fun _ kt => zC X hx hby d7_76 rfl rfl (l' := #[rv xa, rv xb, iv mn, iv ((2 : Int32) + (1 : Int32)), iv u2, iv w2, uu]) rfl (zG X hx hby d7_79 rfl (pc' := 14) rfl kt)) ?_
                    rcases s3 with _ | ⟨u3, s4⟩
                    · rcases t3 with _ | ⟨w3, t4⟩
                      · show oWk _ _ _ _ T (mkF m 14 #[rv xa, rv xb, iv mn, iv 3, iv u2, iv w2, uu] [])
                        refine oWk.to (mkF m 16 #[rv xa, rv xb, iv mn, iv 3, iv u2, iv w2, uu] [(.int mn), (.int 3)]) (fun _ kt => zI X hx hby d7_14 rfl rfl (zI X hx hby d7_15 rfl rfl kt)) ?_
                        refine oWk.st (fun _ kt => zY X hx hby d7_16 rfl rfl (flt (oMnF h1 h2 hmn (k := 3) (by decide) (by simp only [List.length_cons, List.length_nil]; omega))).2.1 (pc' := 82) rfl (zA X hx hby d7_82 rfl rfl rfl kt)) ?_
                        obtain ⟨T, L74, X, e0, K, st⟩ := (cs10 hw).pure X hx hZ hown e0 K (A := [(.ref xa)]) ⟨rfl, _, _, rfl, T_xa.exa⟩ (rLnG l Z a0 hw [] xa xz (u0 :: u1 :: u2 :: []) h0 Oh S_Z hz T_xa h1) (W := 0) (by decide) hml (Ls := #[rv xa, rv xb, iv mn, iv 3, iv u2, iv w2, uu]) rfl (rest := []) rfl rfl hby d7_83
                        refine oWk.st (fun _ kt => st _ (zA X hx hby d7_86 rfl rfl rfl kt)) ?_
                        obtain ⟨T, L76, X, e0, K, st⟩ := (cs10 hw).pure X hx hZ hown e0 K (A := [(.ref xb)]) ⟨rfl, _, _, rfl, T_xb.exa⟩ (rLnG l Z a0 hw [] xb xz (w0 :: w1 :: w2 :: []) h0 Oh S_Z hz T_xb h2) (W := 1) (by decide) hml (Ls := #[rv xa, rv xb, iv mn, iv 3, iv u2, iv w2, uu]) rfl (rest := [(.int (Int32.ofNat (u0 :: u1 :: u2 :: []).length))]) rfl rfl hby d7_87
                        refine oWk.st (fun _ kt => st _ kt) ?_
                        obtain ⟨T, L78, X, e0, K, st⟩ := (cs12 hw).pure X hx hZ hown e0 K (A := [(.int (Int32.ofNat (u0 :: u1 :: u2 :: []).length)), (.int (Int32.ofNat (w0 :: w1 :: w2 :: []).length))]) rfl (rICG l Z a0 hw [] (Int32.ofNat (u0 :: u1 :: u2 :: []).length) (Int32.ofNat (w0 :: w1 :: w2 :: []).length) h0 Oh ) (W := 0) (by decide) hml (Ls := #[rv xa, rv xb, iv mn, iv 3, iv u2, iv w2, uu]) rfl (rest := []) rfl rfl hby d7_90
                        refine oWk.to (mkF m 93 #[rv xa, rv xb, iv mn, iv 3, iv u2, iv w2, uu] [(.int (oIc (Int32.ofNat (u0 :: u1 :: u2 :: []).length) (Int32.ofNat (w0 :: w1 :: w2 :: []).length)))]) (fun _ kt => st _ kt) ?_
                        exact oRetI X hx hlk hret (hb hby d7_93) (by rw [e0]; exact ⟨(by show _ = some (Value.int (oCmpL (u0 :: u1 :: u2 :: []) (w0 :: w1 :: w2 :: []))); rw [oCmpL_eq he0, oCmpL_eq he1, oCmpL_eq he2]; rfl), rfl, K⟩) (by decide) (by decide)
                      · show oWk _ _ _ _ T (mkF m 14 #[rv xa, rv xb, iv mn, iv 3, iv u2, iv w2, uu] [])
                        refine oWk.to (mkF m 16 #[rv xa, rv xb, iv mn, iv 3, iv u2, iv w2, uu] [(.int mn), (.int 3)]) (fun _ kt => zI X hx hby d7_14 rfl rfl (zI X hx hby d7_15 rfl rfl kt)) ?_
                        refine oWk.st (fun _ kt => zY X hx hby d7_16 rfl rfl (flt (oMnF h1 h2 hmn (k := 3) (by decide) (by simp only [List.length_cons, List.length_nil]; omega))).2.1 (pc' := 82) rfl (zA X hx hby d7_82 rfl rfl rfl kt)) ?_
                        obtain ⟨T, L80, X, e0, K, st⟩ := (cs10 hw).pure X hx hZ hown e0 K (A := [(.ref xa)]) ⟨rfl, _, _, rfl, T_xa.exa⟩ (rLnG l Z a0 hw [] xa xz (u0 :: u1 :: u2 :: []) h0 Oh S_Z hz T_xa h1) (W := 0) (by decide) hml (Ls := #[rv xa, rv xb, iv mn, iv 3, iv u2, iv w2, uu]) rfl (rest := []) rfl rfl hby d7_83
                        refine oWk.st (fun _ kt => st _ (zA X hx hby d7_86 rfl rfl rfl kt)) ?_
                        obtain ⟨T, L82, X, e0, K, st⟩ := (cs10 hw).pure X hx hZ hown e0 K (A := [(.ref xb)]) ⟨rfl, _, _, rfl, T_xb.exa⟩ (rLnG l Z a0 hw [] xb xz (w0 :: w1 :: w2 :: w3 :: t4) h0 Oh S_Z hz T_xb h2) (W := 1) (by decide) hml (Ls := #[rv xa, rv xb, iv mn, iv 3, iv u2, iv w2, uu]) rfl (rest := [(.int (Int32.ofNat (u0 :: u1 :: u2 :: []).length))]) rfl rfl hby d7_87
                        refine oWk.st (fun _ kt => st _ kt) ?_
                        obtain ⟨T, L84, X, e0, K, st⟩ := (cs12 hw).pure X hx hZ hown e0 K (A := [(.int (Int32.ofNat (u0 :: u1 :: u2 :: []).length)), (.int (Int32.ofNat (w0 :: w1 :: w2 :: w3 :: t4).length))]) rfl (rICG l Z a0 hw [] (Int32.ofNat (u0 :: u1 :: u2 :: []).length) (Int32.ofNat (w0 :: w1 :: w2 :: w3 :: t4).length) h0 Oh ) (W := 0) (by decide) hml (Ls := #[rv xa, rv xb, iv mn, iv 3, iv u2, iv w2, uu]) rfl (rest := []) rfl rfl hby d7_90
                        refine oWk.to (mkF m 93 #[rv xa, rv xb, iv mn, iv 3, iv u2, iv w2, uu] [(.int (oIc (Int32.ofNat (u0 :: u1 :: u2 :: []).length) (Int32.ofNat (w0 :: w1 :: w2 :: w3 :: t4).length)))]) (fun _ kt => st _ kt) ?_
                        exact oRetI X hx hlk hret (hb hby d7_93) (by rw [e0]; exact ⟨(by show _ = some (Value.int (oCmpL (u0 :: u1 :: u2 :: []) (w0 :: w1 :: w2 :: w3 :: t4))); rw [oCmpL_eq he0, oCmpL_eq he1, oCmpL_eq he2]; exact congrArg (fun z => some (Value.int z)) (oIcL h1 h2 (by simp only [List.length_cons, List.length_nil]; omega))), rfl, K⟩) (by decide) (by decide)
                    · rcases t3 with _ | ⟨w3, t4⟩
                      · show oWk _ _ _ _ T (mkF m 14 #[rv xa, rv xb, iv mn, iv 3, iv u2, iv w2, uu] [])
                        refine oWk.to (mkF m 16 #[rv xa, rv xb, iv mn, iv 3, iv u2, iv w2, uu] [(.int mn), (.int 3)]) (fun _ kt => zI X hx hby d7_14 rfl rfl (zI X hx hby d7_15 rfl rfl kt)) ?_
                        refine oWk.st (fun _ kt => zY X hx hby d7_16 rfl rfl (flt (oMnF h1 h2 hmn (k := 3) (by decide) (by simp only [List.length_cons, List.length_nil]; omega))).2.1 (pc' := 82) rfl (zA X hx hby d7_82 rfl rfl rfl kt)) ?_
                        obtain ⟨T, L86, X, e0, K, st⟩ := (cs10 hw).pure X hx hZ hown e0 K (A := [(.ref xa)]) ⟨rfl, _, _, rfl, T_xa.exa⟩ (rLnG l Z a0 hw [] xa xz (u0 :: u1 :: u2 :: u3 :: s4) h0 Oh S_Z hz T_xa h1) (W := 0) (by decide) hml (Ls := #[rv xa, rv xb, iv mn, iv 3, iv u2, iv w2, uu]) rfl (rest := []) rfl rfl hby d7_83
                        refine oWk.st (fun _ kt => st _ (zA X hx hby d7_86 rfl rfl rfl kt)) ?_
                        obtain ⟨T, L88, X, e0, K, st⟩ := (cs10 hw).pure X hx hZ hown e0 K (A := [(.ref xb)]) ⟨rfl, _, _, rfl, T_xb.exa⟩ (rLnG l Z a0 hw [] xb xz (w0 :: w1 :: w2 :: []) h0 Oh S_Z hz T_xb h2) (W := 1) (by decide) hml (Ls := #[rv xa, rv xb, iv mn, iv 3, iv u2, iv w2, uu]) rfl (rest := [(.int (Int32.ofNat (u0 :: u1 :: u2 :: u3 :: s4).length))]) rfl rfl hby d7_87
                        refine oWk.st (fun _ kt => st _ kt) ?_
                        obtain ⟨T, L90, X, e0, K, st⟩ := (cs12 hw).pure X hx hZ hown e0 K (A := [(.int (Int32.ofNat (u0 :: u1 :: u2 :: u3 :: s4).length)), (.int (Int32.ofNat (w0 :: w1 :: w2 :: []).length))]) rfl (rICG l Z a0 hw [] (Int32.ofNat (u0 :: u1 :: u2 :: u3 :: s4).length) (Int32.ofNat (w0 :: w1 :: w2 :: []).length) h0 Oh ) (W := 0) (by decide) hml (Ls := #[rv xa, rv xb, iv mn, iv 3, iv u2, iv w2, uu]) rfl (rest := []) rfl rfl hby d7_90
                        refine oWk.to (mkF m 93 #[rv xa, rv xb, iv mn, iv 3, iv u2, iv w2, uu] [(.int (oIc (Int32.ofNat (u0 :: u1 :: u2 :: u3 :: s4).length) (Int32.ofNat (w0 :: w1 :: w2 :: []).length)))]) (fun _ kt => st _ kt) ?_
                        exact oRetI X hx hlk hret (hb hby d7_93) (by rw [e0]; exact ⟨(by show _ = some (Value.int (oCmpL (u0 :: u1 :: u2 :: u3 :: s4) (w0 :: w1 :: w2 :: []))); rw [oCmpL_eq he0, oCmpL_eq he1, oCmpL_eq he2]; exact congrArg (fun z => some (Value.int z)) (oIcG h1 h2 (by simp only [List.length_cons, List.length_nil]; omega))), rfl, K⟩) (by decide) (by decide)
                      · show oWk _ _ _ _ T (mkF m 14 #[rv xa, rv xb, iv mn, iv 3, iv u2, iv w2, uu] [])
                        refine oWk.to (mkF m 16 #[rv xa, rv xb, iv mn, iv 3, iv u2, iv w2, uu] [(.int mn), (.int 3)]) (fun _ kt => zI X hx hby d7_14 rfl rfl (zI X hx hby d7_15 rfl rfl kt)) ?_
                        refine oWk.st (fun _ kt => zN X hx hby d7_16 rfl rfl (tlt (oMnT h1 h2 hmn (k := 3) (by decide) (by simp only [List.length_cons, List.length_nil]; omega))).2.1 (zA X hx hby d7_19 rfl rfl rfl (zI X hx hby d7_20 rfl rfl kt))) ?_
                        obtain ⟨T, L92, X, e0, K, st⟩ := (cs13 hw).pure X hx hZ hown e0 K (A := [(.ref xa), (.int (3 : Int32))]) ⟨rfl, _, _, rfl, T_xa.exa⟩ (rCAG_3 l Z a0 hw [] xa xfm xz (u0 :: u1 :: u2 :: u3 :: s4) u3 h0 Oh S_Z hz S_A S_H S_L S_F hcat T_xa h1 rfl) (W := 0) (by decide) hml (Ls := #[rv xa, rv xb, iv mn, iv 3, iv u2, iv w2, uu]) rfl (rest := []) rfl rfl hby d7_21
                        refine oWk.st (fun _ kt => st _ (zS X hx hby d7_24 rfl rfl (l' := #[rv xa, rv xb, iv mn, iv 3, iv u3, iv w2, uu]) rfl (zA X hx hby d7_26 rfl rfl rfl (zI X hx hby d7_27 rfl rfl kt)))) ?_
                        obtain ⟨T, L94, X, e0, K, st⟩ := (cs13 hw).pure X hx hZ hown e0 K (A := [(.ref xb), (.int (3 : Int32))]) ⟨rfl, _, _, rfl, T_xb.exa⟩ (rCAG_3 l Z a0 hw [] xb xfm xz (w0 :: w1 :: w2 :: w3 :: t4) w3 h0 Oh S_Z hz S_A S_H S_L S_F hcat T_xb h2 rfl) (W := 0) (by decide) hml (Ls := #[rv xa, rv xb, iv mn, iv 3, iv u3, iv w2, uu]) rfl (rest := []) rfl rfl hby d7_28
                        refine oWk.to (mkF m 37 #[rv xa, rv xb, iv mn, iv 3, iv u3, iv w3, uu] [(.int w3), (.int u3)]) (fun _ kt => st _ (zS X hx hby d7_31 rfl rfl (l' := #[rv xa, rv xb, iv mn, iv 3, iv u3, iv w3, uu]) rfl (zJ X hx hby d7_33 rfl rfl (zJ X hx hby d7_35 rfl rfl kt)))) ?_
                        by_cases he3 : u3 = w3
                        · refine oWk.to (mkF m 76 #[rv xa, rv xb, iv mn, iv 3, iv u3, iv w3, uu] []) (fun _ kt => zY X hx hby d7_37 rfl rfl (teq he3).1 (pc' := 76) rfl kt) ?_
                          refine oWk.to (mkF m 14 #[rv xa, rv xb, iv mn, iv 4, iv u3, iv w3, uu] []) (fun _ kt => zC X hx hby d7_76 rfl rfl (l' := #[rv xa, rv xb, iv mn, iv ((3 : Int32) + (1 : Int32)), iv u3, iv w3, uu]) rfl (zG X hx hby d7_79 rfl (pc' := 14) rfl kt)) ?_
                          rcases s4 with _ | ⟨u4, s5⟩
                          · rcases t4 with _ | ⟨w4, t5⟩
                            · show oWk _ _ _ _ T (mkF m 14 #[rv xa, rv xb, iv mn, iv 4, iv u3, iv w3, uu] [])
                              refine oWk.to (mkF m 16 #[rv xa, rv xb, iv mn, iv 4, iv u3, iv w3, uu] [(.int mn), (.int 4)]) (fun _ kt => zI X hx hby d7_14 rfl rfl (zI X hx hby d7_15 rfl rfl kt)) ?_
                              refine oWk.st (fun _ kt => zY X hx hby d7_16 rfl rfl (flt (oMnF h1 h2 hmn (k := 4) (by decide) (by simp only [List.length_cons, List.length_nil]; omega))).2.1 (pc' := 82) rfl (zA X hx hby d7_82 rfl rfl rfl kt)) ?_
                              obtain ⟨T, L96, X, e0, K, st⟩ := (cs10 hw).pure X hx hZ hown e0 K (A := [(.ref xa)]) ⟨rfl, _, _, rfl, T_xa.exa⟩ (rLnG l Z a0 hw [] xa xz (u0 :: u1 :: u2 :: u3 :: []) h0 Oh S_Z hz T_xa h1) (W := 0) (by decide) hml (Ls := #[rv xa, rv xb, iv mn, iv 4, iv u3, iv w3, uu]) rfl (rest := []) rfl rfl hby d7_83
                              refine oWk.st (fun _ kt => st _ (zA X hx hby d7_86 rfl rfl rfl kt)) ?_
                              obtain ⟨T, L98, X, e0, K, st⟩ := (cs10 hw).pure X hx hZ hown e0 K (A := [(.ref xb)]) ⟨rfl, _, _, rfl, T_xb.exa⟩ (rLnG l Z a0 hw [] xb xz (w0 :: w1 :: w2 :: w3 :: []) h0 Oh S_Z hz T_xb h2) (W := 1) (by decide) hml (Ls := #[rv xa, rv xb, iv mn, iv 4, iv u3, iv w3, uu]) rfl (rest := [(.int (Int32.ofNat (u0 :: u1 :: u2 :: u3 :: []).length))]) rfl rfl hby d7_87
                              refine oWk.st (fun _ kt => st _ kt) ?_
                              obtain ⟨T, L100, X, e0, K, st⟩ := (cs12 hw).pure X hx hZ hown e0 K (A := [(.int (Int32.ofNat (u0 :: u1 :: u2 :: u3 :: []).length)), (.int (Int32.ofNat (w0 :: w1 :: w2 :: w3 :: []).length))]) rfl (rICG l Z a0 hw [] (Int32.ofNat (u0 :: u1 :: u2 :: u3 :: []).length) (Int32.ofNat (w0 :: w1 :: w2 :: w3 :: []).length) h0 Oh ) (W := 0) (by decide) hml (Ls := #[rv xa, rv xb, iv mn, iv 4, iv u3, iv w3, uu]) rfl (rest := []) rfl rfl hby d7_90
                              refine oWk.to (mkF m 93 #[rv xa, rv xb, iv mn, iv 4, iv u3, iv w3, uu] [(.int (oIc (Int32.ofNat (u0 :: u1 :: u2 :: u3 :: []).length) (Int32.ofNat (w0 :: w1 :: w2 :: w3 :: []).length)))]) (fun _ kt => st _ kt) ?_
                              exact oRetI X hx hlk hret (hb hby d7_93) (by rw [e0]; exact ⟨(by show _ = some (Value.int (oCmpL (u0 :: u1 :: u2 :: u3 :: []) (w0 :: w1 :: w2 :: w3 :: []))); rw [oCmpL_eq he0, oCmpL_eq he1, oCmpL_eq he2, oCmpL_eq he3]; rfl), rfl, K⟩) (by decide) (by decide)
                            · exact absurd h2 (by simp only [List.length_cons]; omega)
                          · rcases t4 with _ | ⟨w4, t5⟩
                            · exact absurd h1 (by simp only [List.length_cons]; omega)
                            · exact absurd h1 (by simp only [List.length_cons]; omega)
                        · refine oWk.to (mkF m 40 #[rv xa, rv xb, iv mn, iv 3, iv u3, iv w3, uu] []) (fun _ kt => zN X hx hby d7_37 rfl rfl (feq he3).1 kt) ?_
                          refine oWk.st (fun _ kt => zJ X hx hby d7_40 rfl rfl kt) ?_
                          obtain ⟨T, L102, X, e0, K, st⟩ := (cs14 hw).pure X hx hZ hown e0 K (A := [(.int u3)]) rfl (rSur l Z a0 hw [] u3 h0 Oh ) (W := 0) (by decide) hml (Ls := #[rv xa, rv xb, iv mn, iv 3, iv u3, iv w3, uu]) rfl (rest := []) rfl rfl hby d7_42
                          refine oWk.st (fun _ kt => st _ (zS X hx hby d7_45 rfl rfl (l' := #[rv xa, rv xb, iv mn, iv 3, iv u3, iv w3, iv (oBi (oSur u3))]) rfl (zJ X hx hby d7_47 rfl rfl (zJ X hx hby d7_49 rfl rfl kt)))) ?_
                          obtain ⟨T, L104, X, e0, K, st⟩ := (cs14 hw).pure X hx hZ hown e0 K (A := [(.int w3)]) rfl (rSur l Z a0 hw [] w3 h0 Oh ) (W := 1) (by decide) hml (Ls := #[rv xa, rv xb, iv mn, iv 3, iv u3, iv w3, iv (oBi (oSur u3))]) rfl (rest := [(.int (oBi (oSur u3)))]) rfl rfl hby d7_51
                          refine oWk.to (mkF m 54 #[rv xa, rv xb, iv mn, iv 3, iv u3, iv w3, iv (oBi (oSur u3))] [(.int (oBi (oSur w3))), (.int (oBi (oSur u3)))]) (fun _ kt => st _ kt) ?_
                          by_cases hs54 : (oBi (oSur u3)) = (oBi (oSur w3))
                          · refine oWk.to (mkF m 68 #[rv xa, rv xb, iv mn, iv 3, iv u3, iv w3, iv (oBi (oSur u3))] []) (fun _ kt => zY X hx hby d7_54 rfl rfl (teq hs54).1 (pc' := 68) rfl kt) ?_
                            refine oWk.st (fun _ kt => zJ X hx hby d7_68 rfl rfl (zJ X hx hby d7_70 rfl rfl kt)) ?_
                            obtain ⟨T, L106, X, e0, K, st⟩ := (cs15 hw).pure X hx hZ hown e0 K (A := [(.int u3), (.int w3)]) rfl (rCC l Z a0 hw [] u3 w3 h0 Oh ) (W := 0) (by decide) hml (Ls := #[rv xa, rv xb, iv mn, iv 3, iv u3, iv w3, iv (oBi (oSur u3))]) rfl (rest := []) rfl rfl hby d7_72
                            refine oWk.to (mkF m 75 #[rv xa, rv xb, iv mn, iv 3, iv u3, iv w3, iv (oBi (oSur u3))] [(.int (u3 - w3))]) (fun _ kt => st _ kt) ?_
                            exact oRetI X hx hlk hret (hb hby d7_75) (by rw [e0]; exact ⟨(by show _ = some (Value.int (oCmpL (u0 :: u1 :: u2 :: u3 :: s4) (w0 :: w1 :: w2 :: w3 :: t4))); rw [oCmpL_eq he0, oCmpL_eq he1, oCmpL_eq he2, oCmpL_ne he3, if_pos hs54]), rfl, K⟩) (by decide) (by decide)
                          · refine oWk.to (mkF m 57 #[rv xa, rv xb, iv mn, iv 3, iv u3, iv w3, iv (oBi (oSur u3))] []) (fun _ kt => zN X hx hby d7_54 rfl rfl (feq hs54).1 kt) ?_
                            refine oWk.to (mkF m 59 #[rv xa, rv xb, iv mn, iv 3, iv u3, iv w3, iv (oBi (oSur u3))] [(.int (oBi (oSur u3)))]) (fun _ kt => zJ X hx hby d7_57 rfl rfl kt) ?_
                            by_cases hs59 : oSur u3
                            · refine oWk.to (mkF m 62 #[rv xa, rv xb, iv mn, iv 3, iv u3, iv w3, iv (oBi (oSur u3))] []) (fun _ kt => zH X hx hby d7_59 rfl rfl ((if0 _ _).trans (feq (oBi_ne hs59)).1) kt) ?_
                              refine oWk.to (mkF m 67 #[rv xa, rv xb, iv mn, iv 3, iv u3, iv w3, iv (oBi (oSur u3))] [(.int 1)]) (fun _ kt => zK X hx hby d7_62 rfl (zG X hx hby d7_63 rfl (pc' := 67) rfl kt)) ?_
                              exact oRetI X hx hlk hret (hb hby d7_67) (by rw [e0]; exact ⟨(by show _ = some (Value.int (oCmpL (u0 :: u1 :: u2 :: u3 :: s4) (w0 :: w1 :: w2 :: w3 :: t4))); rw [oCmpL_eq he0, oCmpL_eq he1, oCmpL_eq he2, oCmpL_ne he3, if_neg hs54, if_pos hs59]), rfl, K⟩) (by decide) (by decide)
                            · refine oWk.to (mkF m 66 #[rv xa, rv xb, iv mn, iv 3, iv u3, iv w3, iv (oBi (oSur u3))] []) (fun _ kt => zF X hx hby d7_59 rfl rfl ((if0 _ _).trans (teq (oBi_f hs59)).1) (pc' := 66) rfl kt) ?_
                              refine oWk.to (mkF m 67 #[rv xa, rv xb, iv mn, iv 3, iv u3, iv w3, iv (oBi (oSur u3))] [(.int (-1 : Int32))]) (fun _ kt => zK X hx hby d7_66 rfl kt) ?_
                              exact oRetI X hx hlk hret (hb hby d7_67) (by rw [e0]; exact ⟨(by show _ = some (Value.int (oCmpL (u0 :: u1 :: u2 :: u3 :: s4) (w0 :: w1 :: w2 :: w3 :: t4))); rw [oCmpL_eq he0, oCmpL_eq he1, oCmpL_eq he2, oCmpL_ne he3, if_neg hs54, if_neg hs59]), rfl, K⟩) (by decide) (by decide)
                  · refine oWk.to (mkF m 40 #[rv xa, rv xb, iv mn, iv 2, iv u2, iv w2, uu] []) (fun _ kt => zN X hx hby d7_37 rfl rfl (feq he2).1 kt) ?_
                    refine oWk.st (fun _ kt => zJ X hx hby d7_40 rfl rfl kt) ?_
                    obtain ⟨T, L108, X, e0, K, st⟩ := (cs14 hw).pure X hx hZ hown e0 K (A := [(.int u2)]) rfl (rSur l Z a0 hw [] u2 h0 Oh ) (W := 0) (by decide) hml (Ls := #[rv xa, rv xb, iv mn, iv 2, iv u2, iv w2, uu]) rfl (rest := []) rfl rfl hby d7_42
                    refine oWk.st (fun _ kt => st _ (zS X hx hby d7_45 rfl rfl (l' := #[rv xa, rv xb, iv mn, iv 2, iv u2, iv w2, iv (oBi (oSur u2))]) rfl (zJ X hx hby d7_47 rfl rfl (zJ X hx hby d7_49 rfl rfl kt)))) ?_
                    obtain ⟨T, L110, X, e0, K, st⟩ := (cs14 hw).pure X hx hZ hown e0 K (A := [(.int w2)]) rfl (rSur l Z a0 hw [] w2 h0 Oh ) (W := 1) (by decide) hml (Ls := #[rv xa, rv xb, iv mn, iv 2, iv u2, iv w2, iv (oBi (oSur u2))]) rfl (rest := [(.int (oBi (oSur u2)))]) rfl rfl hby d7_51
                    refine oWk.to (mkF m 54 #[rv xa, rv xb, iv mn, iv 2, iv u2, iv w2, iv (oBi (oSur u2))] [(.int (oBi (oSur w2))), (.int (oBi (oSur u2)))]) (fun _ kt => st _ kt) ?_
                    by_cases hs54 : (oBi (oSur u2)) = (oBi (oSur w2))
                    · refine oWk.to (mkF m 68 #[rv xa, rv xb, iv mn, iv 2, iv u2, iv w2, iv (oBi (oSur u2))] []) (fun _ kt => zY X hx hby d7_54 rfl rfl (teq hs54).1 (pc' := 68) rfl kt) ?_
                      refine oWk.st (fun _ kt => zJ X hx hby d7_68 rfl rfl (zJ X hx hby d7_70 rfl rfl kt)) ?_
                      obtain ⟨T, L112, X, e0, K, st⟩ := (cs15 hw).pure X hx hZ hown e0 K (A := [(.int u2), (.int w2)]) rfl (rCC l Z a0 hw [] u2 w2 h0 Oh ) (W := 0) (by decide) hml (Ls := #[rv xa, rv xb, iv mn, iv 2, iv u2, iv w2, iv (oBi (oSur u2))]) rfl (rest := []) rfl rfl hby d7_72
                      refine oWk.to (mkF m 75 #[rv xa, rv xb, iv mn, iv 2, iv u2, iv w2, iv (oBi (oSur u2))] [(.int (u2 - w2))]) (fun _ kt => st _ kt) ?_
                      exact oRetI X hx hlk hret (hb hby d7_75) (by rw [e0]; exact ⟨(by show _ = some (Value.int (oCmpL (u0 :: u1 :: u2 :: s3) (w0 :: w1 :: w2 :: t3))); rw [oCmpL_eq he0, oCmpL_eq he1, oCmpL_ne he2, if_pos hs54]), rfl, K⟩) (by decide) (by decide)
                    · refine oWk.to (mkF m 57 #[rv xa, rv xb, iv mn, iv 2, iv u2, iv w2, iv (oBi (oSur u2))] []) (fun _ kt => zN X hx hby d7_54 rfl rfl (feq hs54).1 kt) ?_
                      refine oWk.to (mkF m 59 #[rv xa, rv xb, iv mn, iv 2, iv u2, iv w2, iv (oBi (oSur u2))] [(.int (oBi (oSur u2)))]) (fun _ kt => zJ X hx hby d7_57 rfl rfl kt) ?_
                      by_cases hs59 : oSur u2
                      · refine oWk.to (mkF m 62 #[rv xa, rv xb, iv mn, iv 2, iv u2, iv w2, iv (oBi (oSur u2))] []) (fun _ kt => zH X hx hby d7_59 rfl rfl ((if0 _ _).trans (feq (oBi_ne hs59)).1) kt) ?_
                        refine oWk.to (mkF m 67 #[rv xa, rv xb, iv mn, iv 2, iv u2, iv w2, iv (oBi (oSur u2))] [(.int 1)]) (fun _ kt => zK X hx hby d7_62 rfl (zG X hx hby d7_63 rfl (pc' := 67) rfl kt)) ?_
                        exact oRetI X hx hlk hret (hb hby d7_67) (by rw [e0]; exact ⟨(by show _ = some (Value.int (oCmpL (u0 :: u1 :: u2 :: s3) (w0 :: w1 :: w2 :: t3))); rw [oCmpL_eq he0, oCmpL_eq he1, oCmpL_ne he2, if_neg hs54, if_pos hs59]), rfl, K⟩) (by decide) (by decide)
                      · refine oWk.to (mkF m 66 #[rv xa, rv xb, iv mn, iv 2, iv u2, iv w2, iv (oBi (oSur u2))] []) (fun _ kt => zF X hx hby d7_59 rfl rfl ((if0 _ _).trans (teq (oBi_f hs59)).1) (pc' := 66) rfl kt) ?_
                        refine oWk.to (mkF m 67 #[rv xa, rv xb, iv mn, iv 2, iv u2, iv w2, iv (oBi (oSur u2))] [(.int (-1 : Int32))]) (fun _ kt => zK X hx hby d7_66 rfl kt) ?_
                        exact oRetI X hx hlk hret (hb hby d7_67) (by rw [e0]; exact ⟨(by show _ = some (Value.int (oCmpL (u0 :: u1 :: u2 :: s3) (w0 :: w1 :: w2 :: t3))); rw [oCmpL_eq he0, oCmpL_eq he1, oCmpL_ne he2, if_neg hs54, if_neg hs59]), rfl, K⟩) (by decide) (by decide)
            · refine oWk.to (mkF m 40 #[rv xa, rv xb, iv mn, iv 1, iv u1, iv w1, uu] []) (fun _ kt => zN X hx hby d7_37 rfl rfl (feq he1).1 kt) ?_
              refine oWk.st (fun _ kt => zJ X hx hby d7_40 rfl rfl kt) ?_
              obtain ⟨T, L114, X, e0, K, st⟩ := (cs14 hw).pure X hx hZ hown e0 K (A := [(.int u1)]) rfl (rSur l Z a0 hw [] u1 h0 Oh ) (W := 0) (by decide) hml (Ls := #[rv xa, rv xb, iv mn, iv 1, iv u1, iv w1, uu]) rfl (rest := []) rfl rfl hby d7_42
              refine oWk.st (fun _ kt => st _ (zS X hx hby d7_45 rfl rfl (l' := #[rv xa, rv xb, iv mn, iv 1, iv u1, iv w1, iv (oBi (oSur u1))]) rfl (zJ X hx hby d7_47 rfl rfl (zJ X hx hby d7_49 rfl rfl kt)))) ?_
              obtain ⟨T, L116, X, e0, K, st⟩ := (cs14 hw).pure X hx hZ hown e0 K (A := [(.int w1)]) rfl (rSur l Z a0 hw [] w1 h0 Oh ) (W := 1) (by decide) hml (Ls := #[rv xa, rv xb, iv mn, iv 1, iv u1, iv w1, iv (oBi (oSur u1))]) rfl (rest := [(.int (oBi (oSur u1)))]) rfl rfl hby d7_51
              refine oWk.to (mkF m 54 #[rv xa, rv xb, iv mn, iv 1, iv u1, iv w1, iv (oBi (oSur u1))] [(.int (oBi (oSur w1))), (.int (oBi (oSur u1)))]) (fun _ kt => st _ kt) ?_
              by_cases hs54 : (oBi (oSur u1)) = (oBi (oSur w1))
              · refine oWk.to (mkF m 68 #[rv xa, rv xb, iv mn, iv 1, iv u1, iv w1, iv (oBi (oSur u1))] []) (fun _ kt => zY X hx hby d7_54 rfl rfl (teq hs54).1 (pc' := 68) rfl kt) ?_
                refine oWk.st (fun _ kt => zJ X hx hby d7_68 rfl rfl (zJ X hx hby d7_70 rfl rfl kt)) ?_
                obtain ⟨T, L118, X, e0, K, st⟩ := (cs15 hw).pure X hx hZ hown e0 K (A := [(.int u1), (.int w1)]) rfl (rCC l Z a0 hw [] u1 w1 h0 Oh ) (W := 0) (by decide) hml (Ls := #[rv xa, rv xb, iv mn, iv 1, iv u1, iv w1, iv (oBi (oSur u1))]) rfl (rest := []) rfl rfl hby d7_72
                refine oWk.to (mkF m 75 #[rv xa, rv xb, iv mn, iv 1, iv u1, iv w1, iv (oBi (oSur u1))] [(.int (u1 - w1))]) (fun _ kt => st _ kt) ?_
                exact oRetI X hx hlk hret (hb hby d7_75) (by rw [e0]; exact ⟨(by show _ = some (Value.int (oCmpL (u0 :: u1 :: s2) (w0 :: w1 :: t2))); rw [oCmpL_eq he0, oCmpL_ne he1, if_pos hs54]), rfl, K⟩) (by decide) (by decide)
              · refine oWk.to (mkF m 57 #[rv xa, rv xb, iv mn, iv 1, iv u1, iv w1, iv (oBi (oSur u1))] []) (fun _ kt => zN X hx hby d7_54 rfl rfl (feq hs54).1 kt) ?_
                refine oWk.to (mkF m 59 #[rv xa, rv xb, iv mn, iv 1, iv u1, iv w1, iv (oBi (oSur u1))] [(.int (oBi (oSur u1)))]) (fun _ kt => zJ X hx hby d7_57 rfl rfl kt) ?_
                by_cases hs59 : oSur u1
                · refine oWk.to (mkF m 62 #[rv xa, rv xb, iv mn, iv 1, iv u1, iv w1, iv (oBi (oSur u1))] []) (fun _ kt => zH X hx hby d7_59 rfl rfl ((if0 _ _).trans (feq (oBi_ne hs59)).1) kt) ?_
                  refine oWk.to (mkF m 67 #[rv xa, rv xb, iv mn, iv 1, iv u1, iv w1, iv (oBi (oSur u1))] [(.int 1)]) (fun _ kt => zK X hx hby d7_62 rfl (zG X hx hby d7_63 rfl (pc' := 67) rfl kt)) ?_
                  exact oRetI X hx hlk hret (hb hby d7_67) (by rw [e0]; exact ⟨(by show _ = some (Value.int (oCmpL (u0 :: u1 :: s2) (w0 :: w1 :: t2))); rw [oCmpL_eq he0, oCmpL_ne he1, if_neg hs54, if_pos hs59]), rfl, K⟩) (by decide) (by decide)
                · refine oWk.to (mkF m 66 #[rv xa, rv xb, iv mn, iv 1, iv u1, iv w1, iv (oBi (oSur u1))] []) (fun _ kt => zF X hx hby d7_59 rfl rfl ((if0 _ _).trans (teq (oBi_f hs59)).1) (pc' := 66) rfl kt) ?_
                  refine oWk.to (mkF m 67 #[rv xa, rv xb, iv mn, iv 1, iv u1, iv w1, iv (oBi (oSur u1))] [(.int (-1 : Int32))]) (fun _ kt => zK X hx hby d7_66 rfl kt) ?_
                  exact oRetI X hx hlk hret (hb hby d7_67) (by rw [e0]; exact ⟨(by show _ = some (Value.int (oCmpL (u0 :: u1 :: s2) (w0 :: w1 :: t2))); rw [oCmpL_eq he0, oCmpL_ne he1, if_neg hs54, if_neg hs59]), rfl, K⟩) (by decide) (by decide)
      · refine oWk.to (mkF m 40 #[rv xa, rv xb, iv mn, iv 0, iv u0, iv w0, uu] []) (fun _ kt => zN X hx hby d7_37 rfl rfl (feq he0).1 kt) ?_
        refine oWk.st (fun _ kt => zJ X hx hby d7_40 rfl rfl kt) ?_
        obtain ⟨T, L120, X, e0, K, st⟩ := (cs14 hw).pure X hx hZ hown e0 K (A := [(.int u0)]) rfl (rSur l Z a0 hw [] u0 h0 Oh ) (W := 0) (by decide) hml (Ls := #[rv xa, rv xb, iv mn, iv 0, iv u0, iv w0, uu]) rfl (rest := []) rfl rfl hby d7_42
        refine oWk.st (fun _ kt => st _ (zS X hx hby d7_45 rfl rfl (l' := #[rv xa, rv xb, iv mn, iv 0, iv u0, iv w0, iv (oBi (oSur u0))]) rfl (zJ X hx hby d7_47 rfl rfl (zJ X hx hby d7_49 rfl rfl kt)))) ?_
        obtain ⟨T, L122, X, e0, K, st⟩ := (cs14 hw).pure X hx hZ hown e0 K (A := [(.int w0)]) rfl (rSur l Z a0 hw [] w0 h0 Oh ) (W := 1) (by decide) hml (Ls := #[rv xa, rv xb, iv mn, iv 0, iv u0, iv w0, iv (oBi (oSur u0))]) rfl (rest := [(.int (oBi (oSur u0)))]) rfl rfl hby d7_51
        refine oWk.to (mkF m 54 #[rv xa, rv xb, iv mn, iv 0, iv u0, iv w0, iv (oBi (oSur u0))] [(.int (oBi (oSur w0))), (.int (oBi (oSur u0)))]) (fun _ kt => st _ kt) ?_
        by_cases hs54 : (oBi (oSur u0)) = (oBi (oSur w0))
        · refine oWk.to (mkF m 68 #[rv xa, rv xb, iv mn, iv 0, iv u0, iv w0, iv (oBi (oSur u0))] []) (fun _ kt => zY X hx hby d7_54 rfl rfl (teq hs54).1 (pc' := 68) rfl kt) ?_
          refine oWk.st (fun _ kt => zJ X hx hby d7_68 rfl rfl (zJ X hx hby d7_70 rfl rfl kt)) ?_
          obtain ⟨T, L124, X, e0, K, st⟩ := (cs15 hw).pure X hx hZ hown e0 K (A := [(.int u0), (.int w0)]) rfl (rCC l Z a0 hw [] u0 w0 h0 Oh ) (W := 0) (by decide) hml (Ls := #[rv xa, rv xb, iv mn, iv 0, iv u0, iv w0, iv (oBi (oSur u0))]) rfl (rest := []) rfl rfl hby d7_72
          refine oWk.to (mkF m 75 #[rv xa, rv xb, iv mn, iv 0, iv u0, iv w0, iv (oBi (oSur u0))] [(.int (u0 - w0))]) (fun _ kt => st _ kt) ?_
          exact oRetI X hx hlk hret (hb hby d7_75) (by rw [e0]; exact ⟨(by show _ = some (Value.int (oCmpL (u0 :: s1) (w0 :: t1))); rw [oCmpL_ne he0, if_pos hs54]), rfl, K⟩) (by decide) (by decide)
        · refine oWk.to (mkF m 57 #[rv xa, rv xb, iv mn, iv 0, iv u0, iv w0, iv (oBi (oSur u0))] []) (fun _ kt => zN X hx hby d7_54 rfl rfl (feq hs54).1 kt) ?_
          refine oWk.to (mkF m 59 #[rv xa, rv xb, iv mn, iv 0, iv u0, iv w0, iv (oBi (oSur u0))] [(.int (oBi (oSur u0)))]) (fun _ kt => zJ X hx hby d7_57 rfl rfl kt) ?_
          by_cases hs59 : oSur u0
          · refine oWk.to (mkF m 62 #[rv xa, rv xb, iv mn, iv 0, iv u0, iv w0, iv (oBi (oSur u0))] []) (fun _ kt => zH X hx hby d7_59 rfl rfl ((if0 _ _).trans (feq (oBi_ne hs59)).1) kt) ?_
            refine oWk.to (mkF m 67 #[rv xa, rv xb, iv mn, iv 0, iv u0, iv w0, iv (oBi (oSur u0))] [(.int 1)]) (fun _ kt => zK X hx hby d7_62 rfl (zG X hx hby d7_63 rfl (pc' := 67) rfl kt)) ?_
            exact oRetI X hx hlk hret (hb hby d7_67) (by rw [e0]; exact ⟨(by show _ = some (Value.int (oCmpL (u0 :: s1) (w0 :: t1))); rw [oCmpL_ne he0, if_neg hs54, if_pos hs59]), rfl, K⟩) (by decide) (by decide)
          · refine oWk.to (mkF m 66 #[rv xa, rv xb, iv mn, iv 0, iv u0, iv w0, iv (oBi (oSur u0))] []) (fun _ kt => zF X hx hby d7_59 rfl rfl ((if0 _ _).trans (teq (oBi_f hs59)).1) (pc' := 66) rfl kt) ?_
            refine oWk.to (mkF m 67 #[rv xa, rv xb, iv mn, iv 0, iv u0, iv w0, iv (oBi (oSur u0))] [(.int (-1 : Int32))]) (fun _ kt => zK X hx hby d7_66 rfl kt) ?_
            exact oRetI X hx hlk hret (hb hby d7_67) (by rw [e0]; exact ⟨(by show _ = some (Value.int (oCmpL (u0 :: s1) (w0 :: t1))); rw [oCmpL_ne he0, if_neg hs54, if_neg hs59]), rfl, K⟩) (by decide) (by decide)
def Q_rPcB_0 (Z : State) (xa : Addr) (xk : ClassId) (xc xy0 xy1 xy2 xy3 : Int32) (h0 : Heap) (v : Option Value) (h : Heap) (L : List Loc) : Prop := v = some (.int (1 : Int32)) ∧ oKp h0 h [xa] L ∧ (Arv Z h xa xk .char (4 : Int32) [(.int xc), (.int xy1), (.int xy2), (.int xy3)] (.int (0 : Int32)))
theorem pn_7 : plainName "com/example/congruent/congruent/graph/CodePointOrderComparePinLaw" = true := by first | (simp [plainName, overriddenIn]; done) | decide +kernel
abbrev yy16 : MethodName := ⟨"com/example/congruent/congruent/graph/CodePointOrderComparePinLaw", "put", "([CII)I"⟩
theorem d14_0 : decode method_7_code 0 = .ok (.iload_n 2, 1) := by decide +kernel
theorem d14_1 : decode method_7_code 1 = .ok (.ldc 38, 2) := by decide +kernel
theorem d14_3 : decode method_7_code 3 = .ok (.if_icmp .ge 12, 3) := by decide +kernel
theorem d14_6 : decode method_7_code 6 = .ok (.aload_n 0, 1) := by decide +kernel
theorem d14_7 : decode method_7_code 7 = .ok (.iload_n 1, 1) := by decide +kernel
theorem d14_8 : decode method_7_code 8 = .ok (.iload_n 2, 1) := by decide +kernel
theorem d14_9 : decode method_7_code 9 = .ok (.i2c, 1) := by decide +kernel
theorem d14_10 : decode method_7_code 10 = .ok (.castore, 1) := by decide +kernel
theorem d14_11 : decode method_7_code 11 = .ok (.iload_n 1, 1) := by decide +kernel
theorem d14_12 : decode method_7_code 12 = .ok (.iconst 1, 1) := by decide +kernel
theorem d14_13 : decode method_7_code 13 = .ok (.iadd, 1) := by decide +kernel
theorem d14_14 : decode method_7_code 14 = .ok (.ireturn, 1) := by decide +kernel
theorem rPcB_0 (l : Launch) (Z : State) (a0 : Array Value) (hw : oHW a0 Z) (ws : List Jvm.Cond) (xa : Addr) (xk : ClassId) (xc xy0 xy1 xy2 xy3 : Int32) (h0 : Heap) (O0 : Ext Z.heap h0) (og_xa : Z.heap.size ≤ xa) (V_xa : Arv Z h0 xa xk .char (4 : Int32) [(.int xy0), (.int xy1), (.int xy2), (.int xy3)] (.int (0 : Int32))) (cp : oCp xc) (hB : xc < (65536 : Int32)) :
    oCon l Z yy16 method_7_code 4 (some .int) ws ({ frames := 0, cells := 0, slots := 0, locals := 0 } : Room) #[(.ref xa), (.int (0 : Int32)), (.int xc)] h0 (Q_rPcB_0 Z xa xk xc xy0 xy1 xy2 xy3 h0) := by
  refine oCon.of (plainFor_of_name pn_7) ?_
  intro p e s m below meth c T X hx hby hml hown hnm hret hlk hZ e0
  have hml : c.maxLocals = 4 := hml
  have K : oKp h0 h0 [xa] [] := oKp.nil _ _
  refine oWk.cast (g' := (mkF m 0 #[rv xa, iv 0, iv xc, uu] [])) (by first | rfl | (simp [entryFrame, mkF, argsToLocals, Value.category]; done)) ?_
  refine oWk.st (fun _ kt => zI X hx hby d14_0 rfl rfl kt) ?_
  refine oWk.to (mkF m 10 #[rv xa, iv 0, iv xc, uu] [(.int (xc.toUInt32.toUInt16.toUInt32.toInt32)), (.int 0), (.ref xa)]) (fun _ kt => X.ldcI hx hown (mvT hZ (oW hw 67 rfl)) rfl (hb hby d14_1) (zN X hx hby d14_3 rfl rfl (tlt hB).2.1 (zA X hx hby d14_6 rfl rfl rfl (zI X hx hby d14_7 rfl rfl (zI X hx hby d14_8 rfl rfl (XS.i2c X.here hx rfl (hb hby d14_9) rfl kt)))))) ?_
  rw [show (xc.toUInt32.toUInt16.toUInt32.toInt32) = xc from oChrU (oB16 cp hB)]
  show oWk _ _ _ _ T (mkF m 10 #[rv xa, iv 0, iv xc, uu] [(.int xc), (.int 0), (.ref xa)])
  obtain ⟨cl1, Ar1, q1, Sz1, Nn1, Hs1, Ft1⟩ := id V_xa
  have hin1 : ¬ ((0 : Int32) < 0 ∨ cl1.slots.size ≤ ((0 : Int32)).toNatClampNeg) := inb_of Sz1 ⟨by decide, by decide⟩
  obtain ⟨T, h, X, e0, W1, st⟩ := stC X hx hZ e0 Ar1 (j := (0 : Int32)) hin1 (g := (mkF m 10 #[rv xa, iv 0, iv xc, uu] [(.int xc), (.int 0), (.ref xa)])) rfl rfl (hb hby d14_10)
  have K := K.wr W1 (Or.inl (List.mem_of_getElem? (i := 0) rfl))
  have V_xa := Arv.set Ar1 q1 Sz1 Nn1 Hs1 Ft1 (fits_nar_char _) W1 0 rfl (Nat.le_of_ble_eq_true rfl)
  rw [show nar .char (xc) = xc from oChrU (oB16 cp hB)] at V_xa
  replace V_xa : Arv Z h xa xk .char (4 : Int32) [(.int xc), (.int xy1), (.int xy2), (.int xy3)] (.int (0 : Int32)) := V_xa
  refine oWk.to (mkF m 14 #[rv xa, iv 0, iv xc, uu] [(.int 1)]) (fun _ kt => st _ (zI X hx hby d14_11 rfl rfl (zK X hx hby d14_12 rfl (XS.iadd X.here hx rfl (hb hby d14_13) rfl kt)))) ?_
  exact oRetI X hx hlk hret (hb hby d14_14) (by rw [e0]; exact ⟨rfl, K, V_xa⟩) (by decide) (by decide)
def Q_rPcS_0 (Z : State) (xa : Addr) (xk : ClassId) (xc xy0 xy1 xy2 xy3 : Int32) (h0 : Heap) (v : Option Value) (h : Heap) (L : List Loc) : Prop := v = some (.int (2 : Int32)) ∧ oKp h0 h [xa] L ∧ (Arv Z h xa xk .char (4 : Int32) [(.int (oHi xc)), (.int (oLo xc)), (.int xy2), (.int xy3)] (.int (0 : Int32)))
theorem d14_15 : decode method_7_code 15 = .ok (.iload_n 2, 1) := by decide +kernel
theorem d14_16 : decode method_7_code 16 = .ok (.ldc 38, 2) := by decide +kernel
theorem d14_18 : decode method_7_code 18 = .ok (.isub, 1) := by decide +kernel
theorem d14_19 : decode method_7_code 19 = .ok (.istore_n 3, 1) := by decide +kernel
theorem d14_20 : decode method_7_code 20 = .ok (.aload_n 0, 1) := by decide +kernel
theorem d14_21 : decode method_7_code 21 = .ok (.iload_n 1, 1) := by decide +kernel
theorem d14_22 : decode method_7_code 22 = .ok (.ldc 36, 2) := by decide +kernel
theorem d14_24 : decode method_7_code 24 = .ok (.iload_n 3, 1) := by decide +kernel
theorem d14_25 : decode method_7_code 25 = .ok (.bipush 10, 2) := by decide +kernel
theorem d14_27 : decode method_7_code 27 = .ok (.iushr, 1) := by decide +kernel
theorem d14_28 : decode method_7_code 28 = .ok (.iadd, 1) := by decide +kernel
theorem d14_29 : decode method_7_code 29 = .ok (.i2c, 1) := by decide +kernel
theorem d14_30 : decode method_7_code 30 = .ok (.castore, 1) := by decide +kernel
theorem d14_31 : decode method_7_code 31 = .ok (.aload_n 0, 1) := by decide +kernel
theorem d14_32 : decode method_7_code 32 = .ok (.iload_n 1, 1) := by decide +kernel
theorem d14_33 : decode method_7_code 33 = .ok (.iconst 1, 1) := by decide +kernel
theorem d14_34 : decode method_7_code 34 = .ok (.iadd, 1) := by decide +kernel
theorem d14_35 : decode method_7_code 35 = .ok (.ldc 39, 2) := by decide +kernel
theorem d14_37 : decode method_7_code 37 = .ok (.iload_n 3, 1) := by decide +kernel
theorem d14_38 : decode method_7_code 38 = .ok (.sipush 1023, 3) := by decide +kernel
theorem d14_41 : decode method_7_code 41 = .ok (.iand, 1) := by decide +kernel
theorem d14_42 : decode method_7_code 42 = .ok (.iadd, 1) := by decide +kernel
theorem d14_43 : decode method_7_code 43 = .ok (.i2c, 1) := by decide +kernel
theorem d14_44 : decode method_7_code 44 = .ok (.castore, 1) := by decide +kernel
theorem d14_45 : decode method_7_code 45 = .ok (.iload_n 1, 1) := by decide +kernel
theorem d14_46 : decode method_7_code 46 = .ok (.iconst 2, 1) := by decide +kernel
theorem d14_47 : decode method_7_code 47 = .ok (.iadd, 1) := by decide +kernel
theorem d14_48 : decode method_7_code 48 = .ok (.ireturn, 1) := by decide +kernel
theorem rPcS_0 (l : Launch) (Z : State) (a0 : Array Value) (hw : oHW a0 Z) (ws : List Jvm.Cond) (xa : Addr) (xk : ClassId) (xc xy0 xy1 xy2 xy3 : Int32) (h0 : Heap) (O0 : Ext Z.heap h0) (og_xa : Z.heap.size ≤ xa) (V_xa : Arv Z h0 xa xk .char (4 : Int32) [(.int xy0), (.int xy1), (.int xy2), (.int xy3)] (.int (0 : Int32))) (cp : oCp xc) (hB : ¬ xc < (65536 : Int32)) :
    oCon l Z yy16 method_7_code 4 (some .int) ws ({ frames := 0, cells := 0, slots := 0, locals := 0 } : Room) #[(.ref xa), (.int (0 : Int32)), (.int xc)] h0 (Q_rPcS_0 Z xa xk xc xy0 xy1 xy2 xy3 h0) := by
  refine oCon.of (plainFor_of_name pn_7) ?_
  intro p e s m below meth c T X hx hby hml hown hnm hret hlk hZ e0
  have hml : c.maxLocals = 4 := hml
  have K : oKp h0 h0 [xa] [] := oKp.nil _ _
  refine oWk.cast (g' := (mkF m 0 #[rv xa, iv 0, iv xc, uu] [])) (by first | rfl | (simp [entryFrame, mkF, argsToLocals, Value.category]; done)) ?_
  refine oWk.st (fun _ kt => zI X hx hby d14_0 rfl rfl kt) ?_
  refine oWk.st (fun _ kt => X.ldcI hx hown (mvT hZ (oW hw 67 rfl)) rfl (hb hby d14_1) (zY X hx hby d14_3 rfl rfl (flt hB).2.1 (pc' := 15) rfl (zI X hx hby d14_15 rfl rfl kt))) ?_
  refine oWk.st (fun _ kt => X.ldcI hx hown (mvT hZ (oW hw 67 rfl)) rfl (hb hby d14_16) (XS.isub X.here hx rfl (hb hby d14_18) rfl (zSn X hx hby d14_19 rfl rfl (l' := #[rv xa, iv 0, iv xc, iv (xc - (65536 : Int32))]) rfl (zA X hx hby d14_20 rfl rfl rfl (zI X hx hby d14_21 rfl rfl kt))))) ?_
  refine oWk.to (mkF m 30 #[rv xa, iv 0, iv xc, iv (xc - (65536 : Int32))] [(.int (((55296 : Int32) + (((xc - (65536 : Int32)).toUInt32 >>> ((10 : Int32) &&& 31).toUInt32).toInt32)).toUInt32.toUInt16.toUInt32.toInt32)), (.int 0), (.ref xa)]) (fun _ kt => X.ldcI hx hown (mvT hZ (oW hw 6 rfl)) rfl (hb hby d14_22) (zI X hx hby d14_24 rfl rfl (zL X hx hby d14_25 rfl (XS.iushr X.here hx rfl (hb hby d14_27) rfl (XS.iadd X.here hx rfl (hb hby d14_28) rfl (XS.i2c X.here hx rfl (hb hby d14_29) rfl kt)))))) ?_
  rw [show (((55296 : Int32) + (((xc - (65536 : Int32)).toUInt32 >>> ((10 : Int32) &&& 31).toUInt32).toInt32)).toUInt32.toUInt16.toUInt32.toInt32) = oHi xc from oChrU (oH16 cp hB)]
  show oWk _ _ _ _ T (mkF m 30 #[rv xa, iv 0, iv xc, iv (xc - (65536 : Int32))] [(.int (oHi xc)), (.int 0), (.ref xa)])
  obtain ⟨cl1, Ar1, q1, Sz1, Nn1, Hs1, Ft1⟩ := id V_xa
  have hin1 : ¬ ((0 : Int32) < 0 ∨ cl1.slots.size ≤ ((0 : Int32)).toNatClampNeg) := inb_of Sz1 ⟨by decide, by decide⟩
  obtain ⟨T, h, X, e0, W1, st⟩ := stC X hx hZ e0 Ar1 (j := (0 : Int32)) hin1 (g := (mkF m 30 #[rv xa, iv 0, iv xc, iv (xc - (65536 : Int32))] [(.int (oHi xc)), (.int 0), (.ref xa)])) rfl rfl (hb hby d14_30)
  have K := K.wr W1 (Or.inl (List.mem_of_getElem? (i := 0) rfl))
  have V_xa := Arv.set Ar1 q1 Sz1 Nn1 Hs1 Ft1 (fits_nar_char _) W1 0 rfl (Nat.le_of_ble_eq_true rfl)
  rw [show nar .char (oHi xc) = oHi xc from oChrU (oH16 cp hB)] at V_xa
  replace V_xa : Arv Z h xa xk .char (4 : Int32) [(.int (oHi xc)), (.int xy1), (.int xy2), (.int xy3)] (.int (0 : Int32)) := V_xa
  refine oWk.st (fun _ kt => st _ (zA X hx hby d14_31 rfl rfl rfl (zI X hx hby d14_32 rfl rfl (zK X hx hby d14_33 rfl (XS.iadd X.here hx rfl (hb hby d14_34) rfl kt))))) ?_
  refine oWk.to (mkF m 44 #[rv xa, iv 0, iv xc, iv (xc - (65536 : Int32))] [(.int (((56320 : Int32) + ((xc - (65536 : Int32)) &&& (1023 : Int32))).toUInt32.toUInt16.toUInt32.toInt32)), (.int 1), (.ref xa)]) (fun _ kt => X.ldcI hx hown (mvT hZ (oW hw 79 rfl)) rfl (hb hby d14_35) (zI X hx hby d14_37 rfl rfl (zM X hx hby d14_38 rfl (XS.iand X.here hx rfl (hb hby d14_41) rfl (XS.iadd X.here hx rfl (hb hby d14_42) rfl (XS.i2c X.here hx rfl (hb hby d14_43) rfl kt)))))) ?_
  rw [show (((56320 : Int32) + ((xc - (65536 : Int32)) &&& (1023 : Int32))).toUInt32.toUInt16.toUInt32.toInt32) = oLo xc from oChrU (oL16 cp hB)]
  show oWk _ _ _ _ T (mkF m 44 #[rv xa, iv 0, iv xc, iv (xc - (65536 : Int32))] [(.int (oLo xc)), (.int 1), (.ref xa)])
  obtain ⟨cl2, Ar2, q2, Sz2, Nn2, Hs2, Ft2⟩ := id V_xa
  have hin2 : ¬ ((1 : Int32) < 0 ∨ cl2.slots.size ≤ ((1 : Int32)).toNatClampNeg) := inb_of Sz2 ⟨by decide, by decide⟩
  obtain ⟨T, h, X, e0, W2, st⟩ := stC X hx hZ e0 Ar2 (j := (1 : Int32)) hin2 (g := (mkF m 44 #[rv xa, iv 0, iv xc, iv (xc - (65536 : Int32))] [(.int (oLo xc)), (.int 1), (.ref xa)])) rfl rfl (hb hby d14_44)
  have K := K.wr W2 (Or.inl (List.mem_of_getElem? (i := 0) rfl))
  have V_xa := Arv.set Ar2 q2 Sz2 Nn2 Hs2 Ft2 (fits_nar_char _) W2 1 rfl (Nat.le_of_ble_eq_true rfl)
  rw [show nar .char (oLo xc) = oLo xc from oChrU (oL16 cp hB)] at V_xa
  replace V_xa : Arv Z h xa xk .char (4 : Int32) [(.int (oHi xc)), (.int (oLo xc)), (.int xy2), (.int xy3)] (.int (0 : Int32)) := V_xa
  refine oWk.to (mkF m 48 #[rv xa, iv 0, iv xc, iv (xc - (65536 : Int32))] [(.int 2)]) (fun _ kt => st _ (zI X hx hby d14_45 rfl rfl (zK X hx hby d14_46 rfl (XS.iadd X.here hx rfl (hb hby d14_47) rfl kt)))) ?_
  exact oRetI X hx hlk hret (hb hby d14_48) (by rw [e0]; exact ⟨rfl, K, V_xa⟩) (by decide) (by decide)
def Q_rPcB_1 (Z : State) (xa : Addr) (xk : ClassId) (xc xy0 xy1 xy2 xy3 : Int32) (h0 : Heap) (v : Option Value) (h : Heap) (L : List Loc) : Prop := v = some (.int (2 : Int32)) ∧ oKp h0 h [xa] L ∧ (Arv Z h xa xk .char (4 : Int32) [(.int xy0), (.int xc), (.int xy2), (.int xy3)] (.int (0 : Int32)))
theorem rPcB_1 (l : Launch) (Z : State) (a0 : Array Value) (hw : oHW a0 Z) (ws : List Jvm.Cond) (xa : Addr) (xk : ClassId) (xc xy0 xy1 xy2 xy3 : Int32) (h0 : Heap) (O0 : Ext Z.heap h0) (og_xa : Z.heap.size ≤ xa) (V_xa : Arv Z h0 xa xk .char (4 : Int32) [(.int xy0), (.int xy1), (.int xy2), (.int xy3)] (.int (0 : Int32))) (cp : oCp xc) (hB : xc < (65536 : Int32)) :
    oCon l Z yy16 method_7_code 4 (some .int) ws ({ frames := 0, cells := 0, slots := 0, locals := 0 } : Room) #[(.ref xa), (.int (1 : Int32)), (.int xc)] h0 (Q_rPcB_1 Z xa xk xc xy0 xy1 xy2 xy3 h0) := by
  refine oCon.of (plainFor_of_name pn_7) ?_
  intro p e s m below meth c T X hx hby hml hown hnm hret hlk hZ e0
  have hml : c.maxLocals = 4 := hml
  have K : oKp h0 h0 [xa] [] := oKp.nil _ _
  refine oWk.cast (g' := (mkF m 0 #[rv xa, iv 1, iv xc, uu] [])) (by first | rfl | (simp [entryFrame, mkF, argsToLocals, Value.category]; done)) ?_
  refine oWk.st (fun _ kt => zI X hx hby d14_0 rfl rfl kt) ?_
  refine oWk.to (mkF m 10 #[rv xa, iv 1, iv xc, uu] [(.int (xc.toUInt32.toUInt16.toUInt32.toInt32)), (.int 1), (.ref xa)]) (fun _ kt => X.ldcI hx hown (mvT hZ (oW hw 67 rfl)) rfl (hb hby d14_1) (zN X hx hby d14_3 rfl rfl (tlt hB).2.1 (zA X hx hby d14_6 rfl rfl rfl (zI X hx hby d14_7 rfl rfl (zI X hx hby d14_8 rfl rfl (XS.i2c X.here hx rfl (hb hby d14_9) rfl kt)))))) ?_
  rw [show (xc.toUInt32.toUInt16.toUInt32.toInt32) = xc from oChrU (oB16 cp hB)]
  show oWk _ _ _ _ T (mkF m 10 #[rv xa, iv 1, iv xc, uu] [(.int xc), (.int 1), (.ref xa)])
  obtain ⟨cl1, Ar1, q1, Sz1, Nn1, Hs1, Ft1⟩ := id V_xa
  have hin1 : ¬ ((1 : Int32) < 0 ∨ cl1.slots.size ≤ ((1 : Int32)).toNatClampNeg) := inb_of Sz1 ⟨by decide, by decide⟩
  obtain ⟨T, h, X, e0, W1, st⟩ := stC X hx hZ e0 Ar1 (j := (1 : Int32)) hin1 (g := (mkF m 10 #[rv xa, iv 1, iv xc, uu] [(.int xc), (.int 1), (.ref xa)])) rfl rfl (hb hby d14_10)
  have K := K.wr W1 (Or.inl (List.mem_of_getElem? (i := 0) rfl))
  have V_xa := Arv.set Ar1 q1 Sz1 Nn1 Hs1 Ft1 (fits_nar_char _) W1 1 rfl (Nat.le_of_ble_eq_true rfl)
  rw [show nar .char (xc) = xc from oChrU (oB16 cp hB)] at V_xa
  replace V_xa : Arv Z h xa xk .char (4 : Int32) [(.int xy0), (.int xc), (.int xy2), (.int xy3)] (.int (0 : Int32)) := V_xa
  refine oWk.to (mkF m 14 #[rv xa, iv 1, iv xc, uu] [(.int 2)]) (fun _ kt => st _ (zI X hx hby d14_11 rfl rfl (zK X hx hby d14_12 rfl (XS.iadd X.here hx rfl (hb hby d14_13) rfl kt)))) ?_
  exact oRetI X hx hlk hret (hb hby d14_14) (by rw [e0]; exact ⟨rfl, K, V_xa⟩) (by decide) (by decide)
def Q_rPcS_1 (Z : State) (xa : Addr) (xk : ClassId) (xc xy0 xy1 xy2 xy3 : Int32) (h0 : Heap) (v : Option Value) (h : Heap) (L : List Loc) : Prop := v = some (.int (3 : Int32)) ∧ oKp h0 h [xa] L ∧ (Arv Z h xa xk .char (4 : Int32) [(.int xy0), (.int (oHi xc)), (.int (oLo xc)), (.int xy3)] (.int (0 : Int32)))
theorem rPcS_1 (l : Launch) (Z : State) (a0 : Array Value) (hw : oHW a0 Z) (ws : List Jvm.Cond) (xa : Addr) (xk : ClassId) (xc xy0 xy1 xy2 xy3 : Int32) (h0 : Heap) (O0 : Ext Z.heap h0) (og_xa : Z.heap.size ≤ xa) (V_xa : Arv Z h0 xa xk .char (4 : Int32) [(.int xy0), (.int xy1), (.int xy2), (.int xy3)] (.int (0 : Int32))) (cp : oCp xc) (hB : ¬ xc < (65536 : Int32)) :
    oCon l Z yy16 method_7_code 4 (some .int) ws ({ frames := 0, cells := 0, slots := 0, locals := 0 } : Room) #[(.ref xa), (.int (1 : Int32)), (.int xc)] h0 (Q_rPcS_1 Z xa xk xc xy0 xy1 xy2 xy3 h0) := by
  refine oCon.of (plainFor_of_name pn_7) ?_
  intro p e s m below meth c T X hx hby hml hown hnm hret hlk hZ e0
  have hml : c.maxLocals = 4 := hml
  have K : oKp h0 h0 [xa] [] := oKp.nil _ _
  refine oWk.cast (g' := (mkF m 0 #[rv xa, iv 1, iv xc, uu] [])) (by first | rfl | (simp [entryFrame, mkF, argsToLocals, Value.category]; done)) ?_
  refine oWk.st (fun _ kt => zI X hx hby d14_0 rfl rfl kt) ?_
  refine oWk.st (fun _ kt => X.ldcI hx hown (mvT hZ (oW hw 67 rfl)) rfl (hb hby d14_1) (zY X hx hby d14_3 rfl rfl (flt hB).2.1 (pc' := 15) rfl (zI X hx hby d14_15 rfl rfl kt))) ?_
  refine oWk.st (fun _ kt => X.ldcI hx hown (mvT hZ (oW hw 67 rfl)) rfl (hb hby d14_16) (XS.isub X.here hx rfl (hb hby d14_18) rfl (zSn X hx hby d14_19 rfl rfl (l' := #[rv xa, iv 1, iv xc, iv (xc - (65536 : Int32))]) rfl (zA X hx hby d14_20 rfl rfl rfl (zI X hx hby d14_21 rfl rfl kt))))) ?_
  refine oWk.to (mkF m 30 #[rv xa, iv 1, iv xc, iv (xc - (65536 : Int32))] [(.int (((55296 : Int32) + (((xc - (65536 : Int32)).toUInt32 >>> ((10 : Int32) &&& 31).toUInt32).toInt32)).toUInt32.toUInt16.toUInt32.toInt32)), (.int 1), (.ref xa)]) (fun _ kt => X.ldcI hx hown (mvT hZ (oW hw 6 rfl)) rfl (hb hby d14_22) (zI X hx hby d14_24 rfl rfl (zL X hx hby d14_25 rfl (XS.iushr X.here hx rfl (hb hby d14_27) rfl (XS.iadd X.here hx rfl (hb hby d14_28) rfl (XS.i2c X.here hx rfl (hb hby d14_29) rfl kt)))))) ?_
  rw [show (((55296 : Int32) + (((xc - (65536 : Int32)).toUInt32 >>> ((10 : Int32) &&& 31).toUInt32).toInt32)).toUInt32.toUInt16.toUInt32.toInt32) = oHi xc from oChrU (oH16 cp hB)]
  show oWk _ _ _ _ T (mkF m 30 #[rv xa, iv 1, iv xc, iv (xc - (65536 : Int32))] [(.int (oHi xc)), (.int 1), (.ref xa)])
  obtain ⟨cl1, Ar1, q1, Sz1, Nn1, Hs1, Ft1⟩ := id V_xa
  have hin1 : ¬ ((1 : Int32) < 0 ∨ cl1.slots.size ≤ ((1 : Int32)).toNatClampNeg) := inb_of Sz1 ⟨by decide, by decide⟩
  obtain ⟨T, h, X, e0, W1, st⟩ := stC X hx hZ e0 Ar1 (j := (1 : Int32)) hin1 (g := (mkF m 30 #[rv xa, iv 1, iv xc, iv (xc - (65536 : Int32))] [(.int (oHi xc)), (.int 1), (.ref xa)])) rfl rfl (hb hby d14_30)
  have K := K.wr W1 (Or.inl (List.mem_of_getElem? (i := 0) rfl))
  have V_xa := Arv.set Ar1 q1 Sz1 Nn1 Hs1 Ft1 (fits_nar_char _) W1 1 rfl (Nat.le_of_ble_eq_true rfl)
  rw [show nar .char (oHi xc) = oHi xc from oChrU (oH16 cp hB)] at V_xa
  replace V_xa : Arv Z h xa xk .char (4 : Int32) [(.int xy0), (.int (oHi xc)), (.int xy2), (.int xy3)] (.int (0 : Int32)) := V_xa
  refine oWk.st (fun _ kt => st _ (zA X hx hby d14_31 rfl rfl rfl (zI X hx hby d14_32 rfl rfl (zK X hx hby d14_33 rfl (XS.iadd X.here hx rfl (hb hby d14_34) rfl kt))))) ?_
  refine oWk.to (mkF m 44 #[rv xa, iv 1, iv xc, iv (xc - (65536 : Int32))] [(.int (((56320 : Int32) + ((xc - (65536 : Int32)) &&& (1023 : Int32))).toUInt32.toUInt16.toUInt32.toInt32)), (.int 2), (.ref xa)]) (fun _ kt => X.ldcI hx hown (mvT hZ (oW hw 79 rfl)) rfl (hb hby d14_35) (zI X hx hby d14_37 rfl rfl (zM X hx hby d14_38 rfl (XS.iand X.here hx rfl (hb hby d14_41) rfl (XS.iadd X.here hx rfl (hb hby d14_42) rfl (XS.i2c X.here hx rfl (hb hby d14_43) rfl kt)))))) ?_
  rw [show (((56320 : Int32) + ((xc - (65536 : Int32)) &&& (1023 : Int32))).toUInt32.toUInt16.toUInt32.toInt32) = oLo xc from oChrU (oL16 cp hB)]
  show oWk _ _ _ _ T (mkF m 44 #[rv xa, iv 1, iv xc, iv (xc - (65536 : Int32))] [(.int (oLo xc)), (.int 2), (.ref xa)])
  obtain ⟨cl2, Ar2, q2, Sz2, Nn2, Hs2, Ft2⟩ := id V_xa
  have hin2 : ¬ ((2 : Int32) < 0 ∨ cl2.slots.size ≤ ((2 : Int32)).toNatClampNeg) := inb_of Sz2 ⟨by decide, by decide⟩
  obtain ⟨T, h, X, e0, W2, st⟩ := stC X hx hZ e0 Ar2 (j := (2 : Int32)) hin2 (g := (mkF m 44 #[rv xa, iv 1, iv xc, iv (xc - (65536 : Int32))] [(.int (oLo xc)), (.int 2), (.ref xa)])) rfl rfl (hb hby d14_44)
  have K := K.wr W2 (Or.inl (List.mem_of_getElem? (i := 0) rfl))
  have V_xa := Arv.set Ar2 q2 Sz2 Nn2 Hs2 Ft2 (fits_nar_char _) W2 2 rfl (Nat.le_of_ble_eq_true rfl)
  rw [show nar .char (oLo xc) = oLo xc from oChrU (oL16 cp hB)] at V_xa
  replace V_xa : Arv Z h xa xk .char (4 : Int32) [(.int xy0), (.int (oHi xc)), (.int (oLo xc)), (.int xy3)] (.int (0 : Int32)) := V_xa
  refine oWk.to (mkF m 48 #[rv xa, iv 1, iv xc, iv (xc - (65536 : Int32))] [(.int 3)]) (fun _ kt => st _ (zI X hx hby d14_45 rfl rfl (zK X hx hby d14_46 rfl (XS.iadd X.here hx rfl (hb hby d14_47) rfl kt)))) ?_
  exact oRetI X hx hlk hret (hb hby d14_48) (by rw [e0]; exact ⟨rfl, K, V_xa⟩) (by decide) (by decide)
def Q_rPcB_2 (Z : State) (xa : Addr) (xk : ClassId) (xc xy0 xy1 xy2 xy3 : Int32) (h0 : Heap) (v : Option Value) (h : Heap) (L : List Loc) : Prop := v = some (.int (3 : Int32)) ∧ oKp h0 h [xa] L ∧ (Arv Z h xa xk .char (4 : Int32) [(.int xy0), (.int xy1), (.int xc), (.int xy3)] (.int (0 : Int32)))
theorem rPcB_2 (l : Launch) (Z : State) (a0 : Array Value) (hw : oHW a0 Z) (ws : List Jvm.Cond) (xa : Addr) (xk : ClassId) (xc xy0 xy1 xy2 xy3 : Int32) (h0 : Heap) (O0 : Ext Z.heap h0) (og_xa : Z.heap.size ≤ xa) (V_xa : Arv Z h0 xa xk .char (4 : Int32) [(.int xy0), (.int xy1), (.int xy2), (.int xy3)] (.int (0 : Int32))) (cp : oCp xc) (hB : xc < (65536 : Int32)) :
    oCon l Z yy16 method_7_code 4 (some .int) ws ({ frames := 0, cells := 0, slots := 0, locals := 0 } : Room) #[(.ref xa), (.int (2 : Int32)), (.int xc)] h0 (Q_rPcB_2 Z xa xk xc xy0 xy1 xy2 xy3 h0) := by
  refine oCon.of (plainFor_of_name pn_7) ?_
  intro p e s m below meth c T X hx hby hml hown hnm hret hlk hZ e0
  have hml : c.maxLocals = 4 := hml
  have K : oKp h0 h0 [xa] [] := oKp.nil _ _
  refine oWk.cast (g' := (mkF m 0 #[rv xa, iv 2, iv xc, uu] [])) (by first | rfl | (simp [entryFrame, mkF, argsToLocals, Value.category]; done)) ?_
  refine oWk.st (fun _ kt => zI X hx hby d14_0 rfl rfl kt) ?_
  refine oWk.to (mkF m 10 #[rv xa, iv 2, iv xc, uu] [(.int (xc.toUInt32.toUInt16.toUInt32.toInt32)), (.int 2), (.ref xa)]) (fun _ kt => X.ldcI hx hown (mvT hZ (oW hw 67 rfl)) rfl (hb hby d14_1) (zN X hx hby d14_3 rfl rfl (tlt hB).2.1 (zA X hx hby d14_6 rfl rfl rfl (zI X hx hby d14_7 rfl rfl (zI X hx hby d14_8 rfl rfl (XS.i2c X.here hx rfl (hb hby d14_9) rfl kt)))))) ?_
  rw [show (xc.toUInt32.toUInt16.toUInt32.toInt32) = xc from oChrU (oB16 cp hB)]
  show oWk _ _ _ _ T (mkF m 10 #[rv xa, iv 2, iv xc, uu] [(.int xc), (.int 2), (.ref xa)])
  obtain ⟨cl1, Ar1, q1, Sz1, Nn1, Hs1, Ft1⟩ := id V_xa
  have hin1 : ¬ ((2 : Int32) < 0 ∨ cl1.slots.size ≤ ((2 : Int32)).toNatClampNeg) := inb_of Sz1 ⟨by decide, by decide⟩
  obtain ⟨T, h, X, e0, W1, st⟩ := stC X hx hZ e0 Ar1 (j := (2 : Int32)) hin1 (g := (mkF m 10 #[rv xa, iv 2, iv xc, uu] [(.int xc), (.int 2), (.ref xa)])) rfl rfl (hb hby d14_10)
  have K := K.wr W1 (Or.inl (List.mem_of_getElem? (i := 0) rfl))
  have V_xa := Arv.set Ar1 q1 Sz1 Nn1 Hs1 Ft1 (fits_nar_char _) W1 2 rfl (Nat.le_of_ble_eq_true rfl)
  rw [show nar .char (xc) = xc from oChrU (oB16 cp hB)] at V_xa
  replace V_xa : Arv Z h xa xk .char (4 : Int32) [(.int xy0), (.int xy1), (.int xc), (.int xy3)] (.int (0 : Int32)) := V_xa
  refine oWk.to (mkF m 14 #[rv xa, iv 2, iv xc, uu] [(.int 3)]) (fun _ kt => st _ (zI X hx hby d14_11 rfl rfl (zK X hx hby d14_12 rfl (XS.iadd X.here hx rfl (hb hby d14_13) rfl kt)))) ?_
  exact oRetI X hx hlk hret (hb hby d14_14) (by rw [e0]; exact ⟨rfl, K, V_xa⟩) (by decide) (by decide)
def Q_rPcS_2 (Z : State) (xa : Addr) (xk : ClassId) (xc xy0 xy1 xy2 xy3 : Int32) (h0 : Heap) (v : Option Value) (h : Heap) (L : List Loc) : Prop := v = some (.int (4 : Int32)) ∧ oKp h0 h [xa] L ∧ (Arv Z h xa xk .char (4 : Int32) [(.int xy0), (.int xy1), (.int (oHi xc)), (.int (oLo xc))] (.int (0 : Int32)))
theorem rPcS_2 (l : Launch) (Z : State) (a0 : Array Value) (hw : oHW a0 Z) (ws : List Jvm.Cond) (xa : Addr) (xk : ClassId) (xc xy0 xy1 xy2 xy3 : Int32) (h0 : Heap) (O0 : Ext Z.heap h0) (og_xa : Z.heap.size ≤ xa) (V_xa : Arv Z h0 xa xk .char (4 : Int32) [(.int xy0), (.int xy1), (.int xy2), (.int xy3)] (.int (0 : Int32))) (cp : oCp xc) (hB : ¬ xc < (65536 : Int32)) :
    oCon l Z yy16 method_7_code 4 (some .int) ws ({ frames := 0, cells := 0, slots := 0, locals := 0 } : Room) #[(.ref xa), (.int (2 : Int32)), (.int xc)] h0 (Q_rPcS_2 Z xa xk xc xy0 xy1 xy2 xy3 h0) := by
  refine oCon.of (plainFor_of_name pn_7) ?_
  intro p e s m below meth c T X hx hby hml hown hnm hret hlk hZ e0
  have hml : c.maxLocals = 4 := hml
  have K : oKp h0 h0 [xa] [] := oKp.nil _ _
  refine oWk.cast (g' := (mkF m 0 #[rv xa, iv 2, iv xc, uu] [])) (by first | rfl | (simp [entryFrame, mkF, argsToLocals, Value.category]; done)) ?_
  refine oWk.st (fun _ kt => zI X hx hby d14_0 rfl rfl kt) ?_
  refine oWk.st (fun _ kt => X.ldcI hx hown (mvT hZ (oW hw 67 rfl)) rfl (hb hby d14_1) (zY X hx hby d14_3 rfl rfl (flt hB).2.1 (pc' := 15) rfl (zI X hx hby d14_15 rfl rfl kt))) ?_
  refine oWk.st (fun _ kt => X.ldcI hx hown (mvT hZ (oW hw 67 rfl)) rfl (hb hby d14_16) (XS.isub X.here hx rfl (hb hby d14_18) rfl (zSn X hx hby d14_19 rfl rfl (l' := #[rv xa, iv 2, iv xc, iv (xc - (65536 : Int32))]) rfl (zA X hx hby d14_20 rfl rfl rfl (zI X hx hby d14_21 rfl rfl kt))))) ?_
  refine oWk.to (mkF m 30 #[rv xa, iv 2, iv xc, iv (xc - (65536 : Int32))] [(.int (((55296 : Int32) + (((xc - (65536 : Int32)).toUInt32 >>> ((10 : Int32) &&& 31).toUInt32).toInt32)).toUInt32.toUInt16.toUInt32.toInt32)), (.int 2), (.ref xa)]) (fun _ kt => X.ldcI hx hown (mvT hZ (oW hw 6 rfl)) rfl (hb hby d14_22) (zI X hx hby d14_24 rfl rfl (zL X hx hby d14_25 rfl (XS.iushr X.here hx rfl (hb hby d14_27) rfl (XS.iadd X.here hx rfl (hb hby d14_28) rfl (XS.i2c X.here hx rfl (hb hby d14_29) rfl kt)))))) ?_
  rw [show (((55296 : Int32) + (((xc - (65536 : Int32)).toUInt32 >>> ((10 : Int32) &&& 31).toUInt32).toInt32)).toUInt32.toUInt16.toUInt32.toInt32) = oHi xc from oChrU (oH16 cp hB)]
  show oWk _ _ _ _ T (mkF m 30 #[rv xa, iv 2, iv xc, iv (xc - (65536 : Int32))] [(.int (oHi xc)), (.int 2), (.ref xa)])
  obtain ⟨cl1, Ar1, q1, Sz1, Nn1, Hs1, Ft1⟩ := id V_xa
  have hin1 : ¬ ((2 : Int32) < 0 ∨ cl1.slots.size ≤ ((2 : Int32)).toNatClampNeg) := inb_of Sz1 ⟨by decide, by decide⟩
  obtain ⟨T, h, X, e0, W1, st⟩ := stC X hx hZ e0 Ar1 (j := (2 : Int32)) hin1 (g := (mkF m 30 #[rv xa, iv 2, iv xc, iv (xc - (65536 : Int32))] [(.int (oHi xc)), (.int 2), (.ref xa)])) rfl rfl (hb hby d14_30)
  have K := K.wr W1 (Or.inl (List.mem_of_getElem? (i := 0) rfl))
  have V_xa := Arv.set Ar1 q1 Sz1 Nn1 Hs1 Ft1 (fits_nar_char _) W1 2 rfl (Nat.le_of_ble_eq_true rfl)
  rw [show nar .char (oHi xc) = oHi xc from oChrU (oH16 cp hB)] at V_xa
  replace V_xa : Arv Z h xa xk .char (4 : Int32) [(.int xy0), (.int xy1), (.int (oHi xc)), (.int xy3)] (.int (0 : Int32)) := V_xa
  refine oWk.st (fun _ kt => st _ (zA X hx hby d14_31 rfl rfl rfl (zI X hx hby d14_32 rfl rfl (zK X hx hby d14_33 rfl (XS.iadd X.here hx rfl (hb hby d14_34) rfl kt))))) ?_
  refine oWk.to (mkF m 44 #[rv xa, iv 2, iv xc, iv (xc - (65536 : Int32))] [(.int (((56320 : Int32) + ((xc - (65536 : Int32)) &&& (1023 : Int32))).toUInt32.toUInt16.toUInt32.toInt32)), (.int 3), (.ref xa)]) (fun _ kt => X.ldcI hx hown (mvT hZ (oW hw 79 rfl)) rfl (hb hby d14_35) (zI X hx hby d14_37 rfl rfl (zM X hx hby d14_38 rfl (XS.iand X.here hx rfl (hb hby d14_41) rfl (XS.iadd X.here hx rfl (hb hby d14_42) rfl (XS.i2c X.here hx rfl (hb hby d14_43) rfl kt)))))) ?_
  rw [show (((56320 : Int32) + ((xc - (65536 : Int32)) &&& (1023 : Int32))).toUInt32.toUInt16.toUInt32.toInt32) = oLo xc from oChrU (oL16 cp hB)]
  show oWk _ _ _ _ T (mkF m 44 #[rv xa, iv 2, iv xc, iv (xc - (65536 : Int32))] [(.int (oLo xc)), (.int 3), (.ref xa)])
  obtain ⟨cl2, Ar2, q2, Sz2, Nn2, Hs2, Ft2⟩ := id V_xa
  have hin2 : ¬ ((3 : Int32) < 0 ∨ cl2.slots.size ≤ ((3 : Int32)).toNatClampNeg) := inb_of Sz2 ⟨by decide, by decide⟩
  obtain ⟨T, h, X, e0, W2, st⟩ := stC X hx hZ e0 Ar2 (j := (3 : Int32)) hin2 (g := (mkF m 44 #[rv xa, iv 2, iv xc, iv (xc - (65536 : Int32))] [(.int (oLo xc)), (.int 3), (.ref xa)])) rfl rfl (hb hby d14_44)
  have K := K.wr W2 (Or.inl (List.mem_of_getElem? (i := 0) rfl))
  have V_xa := Arv.set Ar2 q2 Sz2 Nn2 Hs2 Ft2 (fits_nar_char _) W2 3 rfl (Nat.le_of_ble_eq_true rfl)
  rw [show nar .char (oLo xc) = oLo xc from oChrU (oL16 cp hB)] at V_xa
  replace V_xa : Arv Z h xa xk .char (4 : Int32) [(.int xy0), (.int xy1), (.int (oHi xc)), (.int (oLo xc))] (.int (0 : Int32)) := V_xa
  refine oWk.to (mkF m 48 #[rv xa, iv 2, iv xc, iv (xc - (65536 : Int32))] [(.int 4)]) (fun _ kt => st _ (zI X hx hby d14_45 rfl rfl (zK X hx hby d14_46 rfl (XS.iadd X.here hx rfl (hb hby d14_47) rfl kt)))) ?_
  exact oRetI X hx hlk hret (hb hby d14_48) (by rw [e0]; exact ⟨rfl, K, V_xa⟩) (by decide) (by decide)
def Q_rI4_0 (Z : State) (xs xa : Addr) (xu xv : Value) (h0 : Heap) (v : Option Value) (h : Heap) (L : List Loc) : Prop := ∃ (nb : Addr) (nk : ClassId), v = none ∧ oKp h0 h [xs] L ∧ (Exa Z h xs Y0) ∧ (Fld Z h xs Y0 "coder" "B" (.int (0 : Int32))) ∧ (Fld Z h xs Y0 "value" "[B" (.ref nb)) ∧ (Arv Z h nb nk .byte (0 : Int32) [] (.int (0 : Int32)))
abbrev yy17 : MethodName := ⟨"java/lang/String", "<init>", "([CIILjava/lang/Void;)V"⟩
theorem d5_0 : decode jdk_42_method_149_code 0 = .ok (.aload_n 0, 1) := by decide +kernel
theorem d5_1 : decode jdk_42_method_149_code 1 = .ok (.invokespecial 1, 3) := by decide +kernel
theorem d5_4 : decode jdk_42_method_149_code 4 = .ok (.iload_n 3, 1) := by decide +kernel
theorem d5_5 : decode jdk_42_method_149_code 5 = .ok (.ifCond .ne 22, 3) := by decide +kernel
theorem d5_8 : decode jdk_42_method_149_code 8 = .ok (.aload_n 0, 1) := by decide +kernel
theorem d5_9 : decode jdk_42_method_149_code 9 = .ok (.ldc 7, 2) := by decide +kernel
theorem d5_11 : decode jdk_42_method_149_code 11 = .ok (.getfield 9, 3) := by decide +kernel
theorem d5_14 : decode jdk_42_method_149_code 14 = .ok (.putfield 9, 3) := by decide +kernel
theorem d5_17 : decode jdk_42_method_149_code 17 = .ok (.aload_n 0, 1) := by decide +kernel
theorem d5_18 : decode jdk_42_method_149_code 18 = .ok (.ldc 7, 2) := by decide +kernel
theorem d5_20 : decode jdk_42_method_149_code 20 = .ok (.getfield 15, 3) := by decide +kernel
theorem d5_23 : decode jdk_42_method_149_code 23 = .ok (.putfield 15, 3) := by decide +kernel
theorem d5_26 : decode jdk_42_method_149_code 26 = .ok (.return_, 1) := by decide +kernel
theorem rI4_0 (l : Launch) (Z : State) (a0 : Array Value) (hw : oHW a0 Z) (ws : List Jvm.Cond) (xs xa : Addr) (xu xv : Value) (h0 : Heap) (O0 : Ext Z.heap h0) (og_xs : Z.heap.size ≤ xs) (E_xs : Exa Z h0 xs Y0) (F_value_xs : Fld Z h0 xs Y0 "value" "[B" xu) (F_coder_xs : Fld Z h0 xs Y0 "coder" "B" xv) :
    oConH l Z oEL yy17 jdk_42_method_149_code 6 none ws ({ frames := 1, cells := 4, slots := 8, locals := 12 } : Room) #[(.ref xs), (.ref xa), (.int (0 : Int32)), (.int (0 : Int32)), .null] h0 [xs] (Q_rI4_0 Z xs xa xu xv h0) := by
  refine oConH.of (plainFor_of_name pn_0) ?_
  intro p e s m below meth c T vm X hx hby hml hown hnm hret hlk hZ e0 B hsf
  have sf_xs := hsf xs (List.mem_of_getElem? (i := 0) rfl)
  have hml : c.maxLocals = 6 := hml
  have K : oKp h0 h0 [xs] [] := oKp.nil _ _
  refine oWk.cast (g' := (mkF m 0 #[rv xs, rv xa, iv 0, iv 0, .val .null, uu] [])) (by first | rfl | (simp [entryFrame, mkF, argsToLocals, Value.category]; done)) ?_
  refine oWk.st (fun _ kt => zA X hx hby d5_0 rfl rfl rfl kt) ?_
  obtain ⟨T, X, e0, st⟩ := initO X hx hZ hown (oW hw 24 rfl) (oW hw 25 rfl) (oW hw 26 rfl) e0 (g := (mkF m 1 #[rv xs, rv xa, iv 0, iv 0, .val .null, uu] [(.ref xs)])) rfl (by rw [hml]; rfl) rfl (hb hby d5_1) (by decide) (W := 0) (Nat.le_of_eq rfl) (by decide)
  refine oWk.st (fun _ kt => st _ (zI X hx hby d5_4 rfl rfl (zH X hx hby d5_5 rfl rfl ((if0 _ _).trans (teq (by decide)).2) (zA X hx hby d5_8 rfl rfl rfl kt)))) ?_
  obtain ⟨lt1, T, h, lt1b, lt1k, X, e2, E1, hZ, hown, B, C, E_lt1, F_coder_lt1, F_value_lt1, V_lt1b, hne, st⟩ := oLdcR X hx hZ hown (oW hw 27 rfl) (oSA hw) e0 (oELw hw) (List.mem_of_getElem? (i := 0) rfl) B (vs := []) (z := 0) oTx0 (by decide) rfl (g := (mkF m 9 #[rv xs, rv xa, iv 0, iv 0, .val .null, uu] [(.ref xs)])) rfl (hb hby d5_9) (n := 0) (by decide) (by decide) (by decide) (by decide)
  have sf_xs := C.safe E_xs.lt sf_xs
  have e0 := e2
  have K := K.ext E1
  have ne_xs_lt1 := (hne _ sf_xs).1
  have ne_xs_lt1b := (hne _ sf_xs).2
  refine oWk.st (fun _ kt => st _ kt) ?_
  obtain ⟨T, X, e0, st⟩ := getF X hx hZ hown (host := "") (Or.inl (oW hw 33 rfl)) Via.refl e0 F_value_lt1 (g := (mkF m 11 #[rv xs, rv xa, iv 0, iv 0, .val .null, uu] [(.ref lt1), (.ref xs)])) rfl rfl (hb hby d5_11)
  refine oWk.st (fun _ kt => st _ kt) ?_
  have E_xs := (E_xs.ext E1)
  have F_value_xs := (F_value_xs.ext E1)
  obtain ⟨T, h, X, e0, W2, st⟩ := putF X hx hZ hown (host := "") (Or.inl (oW hw 33 rfl)) Via.refl e0 F_value_xs E_xs (Or.inr ⟨(oW hw 29 rfl), rfl, hnm⟩) (oW hw 15 rfl) (ty := (.array .byte)) (by decide) rfl rfl (g := (mkF m 14 #[rv xs, rv xa, iv 0, iv 0, .val .null, uu] [(.ref lt1b), (.ref xs)])) rfl rfl (hb hby d5_14)
  have K := K.wr W2 (Or.inl (List.mem_of_getElem? (i := 0) rfl))
  have sw : Safe Z oEL _ _ xs := sf_xs
  have sf_xs := Safe.wr W2 sw B.2.1 sf_xs
  have B := B.wr W2 sw
  have F_value_xs := F_value_xs.same W2
  refine oWk.st (fun _ kt => st _ (zA X hx hby d5_17 rfl rfl rfl kt)) ?_
  have E_xs := (E_xs.wr W2)
  obtain ⟨lt3, T, h, lt3b, lt3k, X, e2, E3, hZ, hown, B, C, E_lt3, F_coder_lt3, F_value_lt3, V_lt3b, hne, st⟩ := oLdcR X hx hZ hown (oW hw 27 rfl) (oSA hw) e0 (oELw hw) (List.mem_of_getElem? (i := 0) rfl) B (vs := []) (z := 0) oTx0 (by decide) rfl (g := (mkF m 18 #[rv xs, rv xa, iv 0, iv 0, .val .null, uu] [(.ref xs)])) rfl (hb hby d5_18) (n := 0) (by decide) (by decide) (by decide) (by decide)
  have sf_xs := C.safe E_xs.lt sf_xs
  have e0 := e2
  have K := K.ext E3
  have ne_xs_lt3 := (hne _ sf_xs).1
  have ne_xs_lt3b := (hne _ sf_xs).2
  refine oWk.st (fun _ kt => st _ kt) ?_
  obtain ⟨T, X, e0, st⟩ := getF X hx hZ hown (host := "") (Or.inl (oW hw 34 rfl)) Via.refl e0 F_coder_lt3 (g := (mkF m 20 #[rv xs, rv xa, iv 0, iv 0, .val .null, uu] [(.ref lt3), (.ref xs)])) rfl rfl (hb hby d5_20)
  refine oWk.st (fun _ kt => st _ kt) ?_
  have E_xs := (E_xs.ext E3)
  have F_coder_xs := (((F_coder_xs.ext E1).other W2 (Or.inr (slot_ne (Or.inr (oW hw 30 rfl)) (Or.inr (oW hw 29 rfl)) (by decide) (t := .byte) (t' := (.array .byte)) (by decide) (by decide)))).ext E3)
  obtain ⟨T, h, X, e0, W4, st⟩ := putFN X hx hZ hown (oW hw 34 rfl) Via.refl e0 F_coder_xs E_xs (Or.inr ⟨(oW hw 30 rfl), rfl, hnm⟩) (oW hw 15 rfl) (ty := .byte) (v' := .int (0 : Int32)) (by decide) rfl (by decide) (g := (mkF m 23 #[rv xs, rv xa, iv 0, iv 0, .val .null, uu] [(.int 0), (.ref xs)])) rfl rfl (hb hby d5_23)
  have K := K.wr W4 (Or.inl (List.mem_of_getElem? (i := 0) rfl))
  have sw : Safe Z oEL _ _ xs := sf_xs
  have sf_xs := Safe.wr W4 sw B.2.1 sf_xs
  have B := B.wr W4 sw
  have F_coder_xs := F_coder_xs.same W4
  refine oWk.to (mkF m 26 #[rv xs, rv xa, iv 0, iv 0, .val .null, uu] []) (fun _ kt => st _ kt) ?_
  have E_xs := (E_xs.wr W4)
  have F_value_xs := ((F_value_xs.ext E3).other W4 (Or.inr (slot_ne (Or.inr (oW hw 29 rfl)) (Or.inr (oW hw 30 rfl)) (by decide) (t := (.array .byte)) (t' := .byte) (by decide) (by decide))))
  have V_lt1b := (((V_lt1b.other W2 (Ne.symm ne_xs_lt1b)).ext E3).other W4 (Ne.symm ne_xs_lt1b))
  exact oRetHV X hx hlk hZ (oELw hw) e0 B hret (hb hby d5_26) (by rw [e0]; exact ⟨lt1b, lt1k, rfl, K, E_xs, F_coder_xs, F_value_xs, V_lt1b⟩) (by decide) (by decide)
def Q_rI1_0 (Z : State) (xs xa : Addr) (xk : ClassId) (xu xv : Value) (h0 : Heap) (v : Option Value) (h : Heap) (L : List Loc) : Prop := ∃ (nb : Addr) (nk : ClassId), v = none ∧ oKp h0 h [xs] L ∧ (Exa Z h xs Y0) ∧ (Fld Z h xs Y0 "coder" "B" (.int (0 : Int32))) ∧ (Fld Z h xs Y0 "value" "[B" (.ref nb)) ∧ (Arv Z h nb nk .byte (0 : Int32) [] (.int (0 : Int32)))
abbrev yy18 : MethodName := ⟨"java/lang/String", "<init>", "([C)V"⟩
theorem d4_0 : decode jdk_42_method_3_code 0 = .ok (.aload_n 0, 1) := by decide +kernel
theorem d4_1 : decode jdk_42_method_3_code 1 = .ok (.aload_n 1, 1) := by decide +kernel
theorem d4_2 : decode jdk_42_method_3_code 2 = .ok (.iconst 0, 1) := by decide +kernel
theorem d4_3 : decode jdk_42_method_3_code 3 = .ok (.aload_n 1, 1) := by decide +kernel
theorem d4_4 : decode jdk_42_method_3_code 4 = .ok (.arraylength, 1) := by decide +kernel
theorem d4_5 : decode jdk_42_method_3_code 5 = .ok (.aconst_null, 1) := by decide +kernel
theorem d4_6 : decode jdk_42_method_3_code 6 = .ok (.invokespecial 27, 3) := by decide +kernel
theorem pd_12 : parseMethodDescriptor "([CIILjava/lang/Void;)V" = some ⟨[(.array .char), .int, .int, (.object "java/lang/Void")], none⟩ := by decide +kernel
theorem d4_9 : decode jdk_42_method_3_code 9 = .ok (.return_, 1) := by decide +kernel
theorem rI1_0 (l : Launch) (Z : State) (a0 : Array Value) (hw : oHW a0 Z) (ws : List Jvm.Cond) (xs xa : Addr) (xk : ClassId) (xu xv : Value) (h0 : Heap) (O0 : Ext Z.heap h0) (og_xs : Z.heap.size ≤ xs) (E_xs : Exa Z h0 xs Y0) (F_value_xs : Fld Z h0 xs Y0 "value" "[B" xu) (F_coder_xs : Fld Z h0 xs Y0 "coder" "B" xv) (V_xa : Arv Z h0 xa xk .char (0 : Int32) [] (.int (0 : Int32))) :
    oConH l Z oEL yy18 jdk_42_method_3_code 2 none ws ({ frames := 2, cells := 4, slots := 8, locals := 29 } : Room) #[(.ref xs), (.ref xa)] h0 [xs] (Q_rI1_0 Z xs xa xk xu xv h0) := by
  refine oConH.of (plainFor_of_name pn_0) ?_
  intro p e s m below meth c T vm X hx hby hml hown hnm hret hlk hZ e0 B hsf
  have sf_xs := hsf xs (List.mem_of_getElem? (i := 0) rfl)
  have hml : c.maxLocals = 2 := hml
  have K : oKp h0 h0 [xs] [] := oKp.nil _ _
  refine oWk.cast (g' := (mkF m 0 #[rv xs, rv xa] [])) (by first | rfl | (simp [entryFrame, mkF, argsToLocals, Value.category]; done)) ?_
  refine oWk.st (fun _ kt => zA X hx hby d4_0 rfl rfl rfl (zA X hx hby d4_1 rfl rfl rfl (zK X hx hby d4_2 rfl (zA X hx hby d4_3 rfl rfl rfl (oAl X hx hZ e0 V_xa hby d4_4 rfl rfl (XS.aconstNull X.here hx rfl (hb hby d4_5) kt)))))) ?_
  have Oh := K.old O0 (allS og_xs all0)
  obtain ⟨_, _, ⟨T, L3, k3, n3⟩, -, X, hS, hgr, ⟨Lc3, hQ, l3, y3, z3, C⟩, st⟩ := X.specialBackS hx (y := yy17) rfl hown (mvT hZ (oW hw 20 rfl)) (mvT hZ (oW hw 21 rfl)) (mvT hZ (oW hw 23 rfl)) (by decide) (oBackH (W := 0) (rI4_0 l Z a0 hw [] xs xa xu xv h0 Oh og_xs E_xs F_value_xs F_coder_xs) hZ (oW hw 23 rfl) (oW hw 16 rfl) (by decide) (by decide) (oELw hw) B.2.1 (allS ⟨E_xs.lt, sf_xs⟩ all0)) (g := (mkF m 6 #[rv xs, rv xa] [.null, (.int 0), (.int 0), (.ref xa), (.ref xs)])) rfl (by rw [hml]; rfl) (Steps.refl _) (a := xs) (argsL := [(.ref xa), (.int (0 : Int32)), (.int (0 : Int32)), .null]) (rest := []) (lenOf pd_12 rfl) rfl (Nat.le_of_eq rfl) (hb hby d4_6) (fun _ _ => ⟨rfl, e0, (by decide : 0 + 4 ≤ _), (by decide : 0 + 8 ≤ _)⟩)
  dsimp only [Pt.U, Pt.locs, Pt.cells, Pt.slots] at X l3 y3 z3 st hQ C hS hgr
  subst l3 y3 z3
  have X : Stand p l e _ (s.setVm T.vm) m _ below meth c T _ _ _ := X
  obtain ⟨h, e2⟩ : ∃ z, T.heap = z := ⟨_, rfl⟩
  have B := B.call e0 hS hgr C e2
  obtain ⟨hZ, hown⟩ := oWide hZ hown hS
  rw [e2] at hQ C
  have sf_xs := C.safe E_xs.lt sf_xs
  have e0 := e2
  obtain ⟨nb2, nk2, rfl, K2, E_xs, F_coder_xs, F_value_xs, V_nb2⟩ := hQ
  have K := K.call K2 (allS (Or.inl (List.mem_of_getElem? (i := 0) rfl)) all0)
  refine oWk.to (mkF m 9 #[rv xs, rv xa] []) (fun _ kt => st.trans kt) ?_
  exact oRetHV X hx hlk hZ (oELw hw) e0 B hret (hb hby d4_9) (by rw [e0]; exact ⟨nb2, nk2, rfl, K, E_xs, F_coder_xs, F_value_xs, V_nb2⟩) (by decide) (by decide)
def Q_rC5_1 (Z : State) (xa xd : Addr) (xk xl : ClassId) (xc0 : Int32) (h0 : Heap) (v : Option Value) (h : Heap) (L : List Loc) : Prop := v = some (.int (1 : Int32)) ∧ oKp h0 h [xd] L ∧ (Arv Z h xd xl .byte (1 : Int32) [(ib xc0)] (.int (0 : Int32)))
abbrev yy19 : MethodName := ⟨"java/lang/StringUTF16", "compress", "([CI[BII)I"⟩
theorem d16_0 : decode jdk_52_method_21_code 0 = .ok (.iconst 0, 1) := by decide +kernel
theorem d16_1 : decode jdk_52_method_21_code 1 = .ok (.istore 5, 2) := by decide +kernel
theorem d16_3 : decode jdk_52_method_21_code 3 = .ok (.iload 5, 2) := by decide +kernel
theorem d16_5 : decode jdk_52_method_21_code 5 = .ok (.iload 4, 2) := by decide +kernel
theorem d16_7 : decode jdk_52_method_21_code 7 = .ok (.if_icmp .ge 37, 3) := by decide +kernel
theorem d16_10 : decode jdk_52_method_21_code 10 = .ok (.aload_n 0, 1) := by decide +kernel
theorem d16_11 : decode jdk_52_method_21_code 11 = .ok (.iload_n 1, 1) := by decide +kernel
theorem d16_12 : decode jdk_52_method_21_code 12 = .ok (.caload, 1) := by decide +kernel
theorem d16_13 : decode jdk_52_method_21_code 13 = .ok (.istore 6, 2) := by decide +kernel
theorem d16_15 : decode jdk_52_method_21_code 15 = .ok (.iload 6, 2) := by decide +kernel
theorem d16_17 : decode jdk_52_method_21_code 17 = .ok (.sipush 255, 3) := by decide +kernel
theorem d16_20 : decode jdk_52_method_21_code 20 = .ok (.if_icmp .le 6, 3) := by decide +kernel
theorem d16_26 : decode jdk_52_method_21_code 26 = .ok (.aload_n 2, 1) := by decide +kernel
theorem d16_27 : decode jdk_52_method_21_code 27 = .ok (.iload_n 3, 1) := by decide +kernel
theorem d16_28 : decode jdk_52_method_21_code 28 = .ok (.iload 6, 2) := by decide +kernel
theorem d16_30 : decode jdk_52_method_21_code 30 = .ok (.i2b, 1) := by decide +kernel
theorem d16_31 : decode jdk_52_method_21_code 31 = .ok (.bastore, 1) := by decide +kernel
theorem d16_32 : decode jdk_52_method_21_code 32 = .ok (.iinc 1 1, 3) := by decide +kernel
theorem d16_35 : decode jdk_52_method_21_code 35 = .ok (.iinc 3 1, 3) := by decide +kernel
theorem d16_38 : decode jdk_52_method_21_code 38 = .ok (.iinc 5 1, 3) := by decide +kernel
theorem d16_41 : decode jdk_52_method_21_code 41 = .ok (.goto (-38), 3) := by decide +kernel
theorem d16_44 : decode jdk_52_method_21_code 44 = .ok (.iload 4, 2) := by decide +kernel
theorem d16_46 : decode jdk_52_method_21_code 46 = .ok (.ireturn, 1) := by decide +kernel
theorem rC5_1 (l : Launch) (Z : State) (a0 : Array Value) (hw : oHW a0 Z) (ws : List Jvm.Cond) (xa xd : Addr) (xk xl : ClassId) (xc0 : Int32) (h0 : Heap) (O0 : Ext Z.heap h0) (og_xd : Z.heap.size ≤ xd) (ne_xa_xd : xa ≠ xd) (V_xa : Arv Z h0 xa xk .char (1 : Int32) [(.int xc0)] (.int (0 : Int32))) (V_xd : Arv Z h0 xd xl .byte (1 : Int32) [(.int (0 : Int32))] (.int (0 : Int32))) (hc0_ : ¬ (255 : Int32) < xc0) :
    oCon l Z yy19 jdk_52_method_21_code 7 (some .int) ws ({ frames := 0, cells := 0, slots := 0, locals := 0 } : Room) #[(.ref xa), (.int (0 : Int32)), (.ref xd), (.int (0 : Int32)), (.int (1 : Int32))] h0 (Q_rC5_1 Z xa xd xk xl xc0 h0) := by
  refine oCon.of (plainFor_of_name pn_2) ?_
  intro p e s m below meth c T X hx hby hml hown hnm hret hlk hZ e0
  have hml : c.maxLocals = 7 := hml
  have K : oKp h0 h0 [xd] [] := oKp.nil _ _
  refine oWk.cast (g' := (mkF m 0 #[rv xa, iv 0, rv xd, iv 0, iv 1, uu, uu] [])) (by first | rfl | (simp [entryFrame, mkF, argsToLocals, Value.category]; done)) ?_
  refine oWk.to (mkF m 12 #[rv xa, iv 0, rv xd, iv 0, iv 1, iv 0, uu] [(.int 0), (.ref xa)]) (fun _ kt => zK X hx hby d16_0 rfl (zS X hx hby d16_1 rfl rfl (l' := #[rv xa, iv 0, rv xd, iv 0, iv 1, iv 0, uu]) rfl (zJ X hx hby d16_3 rfl rfl (zJ X hx hby d16_5 rfl rfl (zN X hx hby d16_7 rfl rfl (tlt (by decide)).2.1 (zA X hx hby d16_10 rfl rfl rfl (zI X hx hby d16_11 rfl rfl kt))))))) ?_
  refine oWk.to (mkF m 20 #[rv xa, iv 0, rv xd, iv 0, iv 1, iv 0, iv xc0] [(.int 255), (.int xc0)]) (fun _ kt => oLdC X hx hZ e0 V_xa (0 : Int32) (.int xc0) ⟨by decide, by decide⟩ rfl hby d16_12 rfl rfl (zS X hx hby d16_13 rfl rfl (l' := #[rv xa, iv 0, rv xd, iv 0, iv 1, iv 0, iv xc0]) rfl (zJ X hx hby d16_15 rfl rfl (zM X hx hby d16_17 rfl kt)))) ?_
  refine oWk.to (mkF m 31 #[rv xa, iv 0, rv xd, iv 0, iv 1, iv 0, iv xc0] [(ib xc0), (.int 0), (.ref xd)]) (fun _ kt => zY X hx hby d16_20 rfl rfl (flt hc0_).2.2.2 (pc' := 26) rfl (zA X hx hby d16_26 rfl rfl rfl (zI X hx hby d16_27 rfl rfl (zJ X hx hby d16_28 rfl rfl (XS.i2b X.here hx rfl (hb hby d16_30) rfl kt))))) ?_
  obtain ⟨cl2, Ar2, q2, Sz2, Nn2, Hs2, Ft2⟩ := id V_xd
  have hin2 : ¬ ((0 : Int32) < 0 ∨ cl2.slots.size ≤ ((0 : Int32)).toNatClampNeg) := inb_of Sz2 ⟨by decide, by decide⟩
  obtain ⟨T, h, X, e0, W2, st⟩ := stB X hx hZ e0 Ar2 (j := (0 : Int32)) hin2 (g := (mkF m 31 #[rv xa, iv 0, rv xd, iv 0, iv 1, iv 0, iv xc0] [(ib xc0), (.int 0), (.ref xd)])) rfl rfl (hb hby d16_31)
  have K := K.wr W2 (Or.inl (List.mem_of_getElem? (i := 0) rfl))
  have V_xd := Arv.set Ar2 q2 Sz2 Nn2 Hs2 Ft2 (fits_nar_byte _) W2 0 rfl (Nat.le_of_ble_eq_true rfl)
  rw [oB8 xc0] at V_xd
  replace V_xd : Arv Z h xd xl .byte (1 : Int32) [(ib xc0)] (.int (0 : Int32)) := V_xd
  refine oWk.to (mkF m 7 #[rv xa, iv 1, rv xd, iv 1, iv 1, iv 1, iv xc0] [(.int 1), (.int 1)]) (fun _ kt => st _ (zC X hx hby d16_32 rfl rfl (l' := #[rv xa, iv ((0 : Int32) + (1 : Int32)), rv xd, iv 0, iv 1, iv 0, iv xc0]) rfl (zC X hx hby d16_35 rfl rfl (l' := #[rv xa, iv 1, rv xd, iv ((0 : Int32) + (1 : Int32)), iv 1, iv 0, iv xc0]) rfl (zC X hx hby d16_38 rfl rfl (l' := #[rv xa, iv 1, rv xd, iv 1, iv 1, iv ((0 : Int32) + (1 : Int32)), iv xc0]) rfl (zG X hx hby d16_41 rfl (pc' := 3) rfl (zJ X hx hby d16_3 rfl rfl (zJ X hx hby d16_5 rfl rfl kt))))))) ?_
  refine oWk.to (mkF m 46 #[rv xa, iv 1, rv xd, iv 1, iv 1, iv 1, iv xc0] [(.int 1)]) (fun _ kt => zY X hx hby d16_7 rfl rfl (flt (by decide)).2.1 (pc' := 44) rfl (zJ X hx hby d16_44 rfl rfl kt)) ?_
  exact oRetI X hx hlk hret (hb hby d16_46) (by rw [e0]; exact ⟨rfl, K, V_xd⟩) (by decide) (by decide)
def Q_rC3_1 (Z : State) (xa : Addr) (xk : ClassId) (xc0 : Int32) (h0 : Heap) (v : Option Value) (h : Heap) (L : List Loc) : Prop := ∃ (nb : Addr) (nk : ClassId), v = some (.ref nb) ∧ oKp h0 h [] L ∧ (h0.size ≤ nb) ∧ (Arv Z h nb nk .byte (1 : Int32) [(ib xc0)] (.int (0 : Int32)))
abbrev yy20 : MethodName := ⟨"java/lang/StringUTF16", "compress", "([CII)[B"⟩
theorem d15_0 : decode jdk_52_method_16_code 0 = .ok (.iload_n 2, 1) := by decide +kernel
theorem d15_1 : decode jdk_52_method_16_code 1 = .ok (.newarray .byte, 2) := by decide +kernel
theorem d15_3 : decode jdk_52_method_16_code 3 = .ok (.astore_n 3, 1) := by decide +kernel
theorem d15_4 : decode jdk_52_method_16_code 4 = .ok (.aload_n 0, 1) := by decide +kernel
theorem d15_5 : decode jdk_52_method_16_code 5 = .ok (.iload_n 1, 1) := by decide +kernel
theorem d15_6 : decode jdk_52_method_16_code 6 = .ok (.aload_n 3, 1) := by decide +kernel
theorem d15_7 : decode jdk_52_method_16_code 7 = .ok (.iconst 0, 1) := by decide +kernel
theorem d15_8 : decode jdk_52_method_16_code 8 = .ok (.iload_n 2, 1) := by decide +kernel
theorem d15_9 : decode jdk_52_method_16_code 9 = .ok (.invokestatic 115, 3) := by decide +kernel
theorem pd_13 : parseMethodDescriptor "([CI[BII)I" = some ⟨[(.array .char), .int, (.array .byte), .int, .int], some .int⟩ := by decide +kernel
theorem cs16 {a0 : Array Value} {Z : State} (hw : oHW a0 Z) : oCall Z Y1 (.invokestatic 115) yy19 jdk_52_method_21_code 7 (some .int) (oRs 5) := oCall.stat (oW hw 72 rfl) (oW hw 73 rfl) (oW hw 70 rfl) (oW hw 74 rfl) (by decide) pd_13
theorem d15_12 : decode jdk_52_method_16_code 12 = .ok (.istore 4, 2) := by decide +kernel
theorem d15_14 : decode jdk_52_method_16_code 14 = .ok (.iload 4, 2) := by decide +kernel
theorem d15_16 : decode jdk_52_method_16_code 16 = .ok (.iload_n 2, 1) := by decide +kernel
theorem d15_17 : decode jdk_52_method_16_code 17 = .ok (.if_icmp .eq 40, 3) := by decide +kernel
theorem d15_57 : decode jdk_52_method_16_code 57 = .ok (.aload_n 3, 1) := by decide +kernel
theorem d15_58 : decode jdk_52_method_16_code 58 = .ok (.areturn, 1) := by decide +kernel
theorem rC3_1 (l : Launch) (Z : State) (a0 : Array Value) (hw : oHW a0 Z) (ws : List Jvm.Cond) (xa : Addr) (xk : ClassId) (xc0 : Int32) (h0 : Heap) (O0 : Ext Z.heap h0) (V_xa : Arv Z h0 xa xk .char (1 : Int32) [(.int xc0)] (.int (0 : Int32))) (hc0_ : ¬ (255 : Int32) < xc0) :
    oCon l Z yy20 jdk_52_method_16_code 6 (some (.array .byte)) ws ({ frames := 1, cells := 1, slots := 1, locals := 18 } : Room) #[(.ref xa), (.int (0 : Int32)), (.int (1 : Int32))] h0 (Q_rC3_1 Z xa xk xc0 h0) := by
  refine oCon.of (plainFor_of_name pn_2) ?_
  intro p e s m below meth c T X hx hby hml hown hnm hret hlk hZ e0
  have hml : c.maxLocals = 6 := hml
  have K : oKp h0 h0 [] [] := oKp.nil _ _
  refine oWk.cast (g' := (mkF m 0 #[rv xa, iv 0, iv 1, uu, uu, uu] [])) (by first | rfl | (simp [entryFrame, mkF, argsToLocals, Value.category]; done)) ?_
  refine oWk.st (fun _ kt => zI X hx hby d15_0 rfl rfl kt) ?_
  obtain ⟨o1, g1⟩ : ∃ z, z = h0.size := ⟨_, rfl⟩
  have ne_xa_o1 : xa ≠ o1 := Nat.ne_of_lt (Nat.lt_of_lt_of_le V_xa.lt (Nat.le_of_eq g1.symm))
  have ge_o1 : h0.size ≤ o1 := Nat.le_trans K.le (Nat.le_of_eq g1.symm)
  obtain ⟨T, h, k1, X, e0, E1, A1, st⟩ := newP X hx hZ (oW hw 28 rfl) e0 (g := (mkF m 1 #[rv xa, iv 0, iv 1, uu, uu, uu] [(.int 1)])) rfl (hb hby d15_1) rfl (by decide) (cap := 1) (by decide) (by decide) (by decide) (by decide)
  rw [← g1] at A1 st
  have K := K.ext E1
  have V_o1 : Arv Z h o1 k1 .byte (1 : Int32) [(.int (0 : Int32))] (.int (0 : Int32)) := (Arv.new A1 (by decide)).pad (pad_rep [] (.int (0 : Int32)) 1)
  refine oWk.to (mkF m 9 #[rv xa, iv 0, iv 1, rv o1, uu, uu] [(.int 1), (.int 0), (.ref o1), (.int 0), (.ref xa)]) (fun _ kt => st _ (zTn X hx hby d15_3 rfl rfl rfl (l' := #[rv xa, iv 0, iv 1, rv o1, uu, uu]) rfl (zA X hx hby d15_4 rfl rfl rfl (zI X hx hby d15_5 rfl rfl (zA X hx hby d15_6 rfl rfl rfl (zK X hx hby d15_7 rfl (zI X hx hby d15_8 rfl rfl kt))))))) ?_
  have V_xa := (V_xa.ext E1)
  have Oh := K.old O0 all0
  obtain ⟨_, T, h, Lc3, X, e0, hQ, st⟩ := (cs16 hw).run X hx hZ hown e0 (A := [(.ref xa), (.int (0 : Int32)), (.ref o1), (.int (0 : Int32)), (.int (1 : Int32))]) rfl (rC5_1 l Z a0 hw [] xa o1 xk k1 xc0 h Oh (Nat.le_trans O0.1 ge_o1) ne_xa_o1 V_xa V_o1 hc0_) (W := 0) (by decide) hml (Ls := #[rv xa, iv 0, iv 1, rv o1, uu, uu]) rfl (rest := []) rfl rfl hby d15_9
  obtain ⟨rfl, K2, V_o1⟩ := hQ
  have K := K.call K2 (allS (Or.inr ge_o1) all0)
  refine oWk.to (mkF m 58 #[rv xa, iv 0, iv 1, rv o1, iv 1, uu] [(.ref o1)]) (fun _ kt => st _ (zS X hx hby d15_12 rfl rfl (l' := #[rv xa, iv 0, iv 1, rv o1, iv 1, uu]) rfl (zJ X hx hby d15_14 rfl rfl (zI X hx hby d15_16 rfl rfl (zY X hx hby d15_17 rfl rfl (teq (by decide)).1 (pc' := 57) rfl (zA X hx hby d15_57 rfl rfl rfl kt)))))) ?_
  exact oRetA X hx hlk hret rfl rfl (hb hby d15_58) (by rw [e0]; exact ⟨o1, k1, rfl, K, ge_o1, V_o1⟩) (by decide) (by decide)
abbrev yy21 : MethodName := ⟨"java/lang/StringUTF16", "coderFromArrayLen", "([BI)B"⟩
theorem d17_0 : decode jdk_52_method_15_code 0 = .ok (.iload_n 1, 1) := by decide +kernel
theorem d17_1 : decode jdk_52_method_15_code 1 = .ok (.aload_n 0, 1) := by decide +kernel
theorem d17_2 : decode jdk_52_method_15_code 2 = .ok (.arraylength, 1) := by decide +kernel
theorem d17_3 : decode jdk_52_method_15_code 3 = .ok (.isub, 1) := by decide +kernel
theorem d17_4 : decode jdk_52_method_15_code 4 = .ok (.bipush 31, 2) := by decide +kernel
theorem d17_6 : decode jdk_52_method_15_code 6 = .ok (.iushr, 1) := by decide +kernel
theorem d17_7 : decode jdk_52_method_15_code 7 = .ok (.i2b, 1) := by decide +kernel
theorem d17_8 : decode jdk_52_method_15_code 8 = .ok (.ireturn, 1) := by decide +kernel
theorem rCo_1 (l : Launch) (Z : State) (a0 : Array Value) (hw : oHW a0 Z) (ws : List Jvm.Cond) (xb : Addr) (xk : ClassId) (xy0 : Int32) (h0 : Heap) (O0 : Ext Z.heap h0) (V_xb : Arv Z h0 xb xk .byte (1 : Int32) [(.int xy0)] (.int (0 : Int32))) :
    oCon l Z yy21 jdk_52_method_15_code 2 (some .byte) ws ({ frames := 0, cells := 0, slots := 0, locals := 0 } : Room) #[(.ref xb), (.int (1 : Int32))] h0 (oPq (some (.int (0 : Int32))) h0) := by
  refine oCon.of (plainFor_of_name pn_2) ?_
  intro p e s m below meth c T X hx hby hml hown hnm hret hlk hZ e0
  have hml : c.maxLocals = 2 := hml
  have K : oKp h0 h0 [] [] := oKp.nil _ _
  refine oWk.cast (g' := (mkF m 0 #[rv xb, iv 1] [])) (by first | rfl | (simp [entryFrame, mkF, argsToLocals, Value.category]; done)) ?_
  refine oWk.to (mkF m 8 #[rv xb, iv 1] [(.int 0)]) (fun _ kt => zI X hx hby d17_0 rfl rfl (zA X hx hby d17_1 rfl rfl rfl (oAl X hx hZ e0 V_xb hby d17_2 rfl rfl (XS.isub X.here hx rfl (hb hby d17_3) rfl (zL X hx hby d17_4 rfl (XS.iushr X.here hx rfl (hb hby d17_6) rfl (XS.i2b X.here hx rfl (hb hby d17_7) rfl kt))))))) ?_
  exact oRetN X hx hlk hret (Or.inl rfl) rfl (hb hby d17_8) (by rw [e0]; exact ⟨rfl, rfl, K⟩) (by decide) (by decide)
def Q_rI4_1 (Z : State) (xs xa : Addr) (xk : ClassId) (xz : Int32) (xu xv : Value) (xc0 : Int32) (h0 : Heap) (v : Option Value) (h : Heap) (L : List Loc) : Prop := ∃ (nb : Addr) (nk : ClassId), v = none ∧ oKp h0 h [xs] L ∧ (Exa Z h xs Y0) ∧ (Fld Z h xs Y0 "coder" "B" (.int (0 : Int32))) ∧ (Fld Z h xs Y0 "value" "[B" (.ref nb)) ∧ (h0.size ≤ nb) ∧ (Arv Z h nb nk .byte (1 : Int32) [(ib xc0)] (.int (0 : Int32)))
theorem d5_27 : decode jdk_42_method_149_code 27 = .ok (.getstatic 38, 3) := by decide +kernel
theorem d5_30 : decode jdk_42_method_149_code 30 = .ok (.ifCond .eq 28, 3) := by decide +kernel
theorem d5_33 : decode jdk_42_method_149_code 33 = .ok (.aload_n 1, 1) := by decide +kernel
theorem d5_34 : decode jdk_42_method_149_code 34 = .ok (.iload_n 2, 1) := by decide +kernel
theorem d5_35 : decode jdk_42_method_149_code 35 = .ok (.iload_n 3, 1) := by decide +kernel
theorem d5_36 : decode jdk_42_method_149_code 36 = .ok (.invokestatic 177, 3) := by decide +kernel
theorem pd_14 : parseMethodDescriptor "([CII)[B" = some ⟨[(.array .char), .int, .int], some (.array .byte)⟩ := by decide +kernel
theorem cs17 {a0 : Array Value} {Z : State} (hw : oHW a0 Z) : oCall Z Y0 (.invokestatic 177) yy20 jdk_52_method_16_code 6 (some (.array .byte)) (oRs 3) := oCall.stat (oW hw 68 rfl) (oW hw 69 rfl) (oW hw 70 rfl) (oW hw 71 rfl) (by decide) pd_14
theorem d5_39 : decode jdk_42_method_149_code 39 = .ok (.astore 5, 2) := by decide +kernel
theorem d5_41 : decode jdk_42_method_149_code 41 = .ok (.aload_n 0, 1) := by decide +kernel
theorem d5_42 : decode jdk_42_method_149_code 42 = .ok (.aload 5, 2) := by decide +kernel
theorem d5_44 : decode jdk_42_method_149_code 44 = .ok (.iload_n 3, 1) := by decide +kernel
theorem d5_45 : decode jdk_42_method_149_code 45 = .ok (.invokestatic 47, 3) := by decide +kernel
theorem pd_15 : parseMethodDescriptor "([BI)B" = some ⟨[(.array .byte), .int], some .byte⟩ := by decide +kernel
theorem cs18 {a0 : Array Value} {Z : State} (hw : oHW a0 Z) : oCall Z Y0 (.invokestatic 47) yy21 jdk_52_method_15_code 2 (some .byte) (oRs 2) := oCall.stat (oW hw 75 rfl) (oW hw 76 rfl) (oW hw 70 rfl) (oW hw 77 rfl) (by decide) pd_15
theorem d5_48 : decode jdk_42_method_149_code 48 = .ok (.putfield 15, 3) := by decide +kernel
theorem d5_51 : decode jdk_42_method_149_code 51 = .ok (.aload_n 0, 1) := by decide +kernel
theorem d5_52 : decode jdk_42_method_149_code 52 = .ok (.aload 5, 2) := by decide +kernel
theorem d5_54 : decode jdk_42_method_149_code 54 = .ok (.putfield 9, 3) := by decide +kernel
theorem d5_57 : decode jdk_42_method_149_code 57 = .ok (.return_, 1) := by decide +kernel
theorem rI4_1 (l : Launch) (Z : State) (a0 : Array Value) (hw : oHW a0 Z) (ws : List Jvm.Cond) (xs xa : Addr) (xk : ClassId) (xz : Int32) (xu xv : Value) (xc0 : Int32) (h0 : Heap) (O0 : Ext Z.heap h0) (S_Z : Sta Z Z.heap Y0 Y2 "Z" (.int xz)) (hz : ¬ xz = (0 : Int32)) (og_xs : Z.heap.size ≤ xs) (E_xs : Exa Z h0 xs Y0) (F_value_xs : Fld Z h0 xs Y0 "value" "[B" xu) (F_coder_xs : Fld Z h0 xs Y0 "coder" "B" xv) (V_xa : Arv Z h0 xa xk .char (1 : Int32) [(.int xc0)] (.int (0 : Int32))) (hc0_ : ¬ (255 : Int32) < xc0) :
    oCon l Z yy17 jdk_42_method_149_code 6 none ws ({ frames := 2, cells := 1, slots := 1, locals := 35 } : Room) #[(.ref xs), (.ref xa), (.int (0 : Int32)), (.int (1 : Int32)), .null] h0 (Q_rI4_1 Z xs xa xk xz xu xv xc0 h0) := by
  refine oCon.of (plainFor_of_name pn_0) ?_
  intro p e s m below meth c T X hx hby hml hown hnm hret hlk hZ e0
  have hml : c.maxLocals = 6 := hml
  have K : oKp h0 h0 [xs] [] := oKp.nil _ _
  refine oWk.cast (g' := (mkF m 0 #[rv xs, rv xa, iv 0, iv 1, .val .null, uu] [])) (by first | rfl | (simp [entryFrame, mkF, argsToLocals, Value.category]; done)) ?_
  refine oWk.st (fun _ kt => zA X hx hby d5_0 rfl rfl rfl kt) ?_
  obtain ⟨T, X, e0, st⟩ := initO X hx hZ hown (oW hw 24 rfl) (oW hw 25 rfl) (oW hw 26 rfl) e0 (g := (mkF m 1 #[rv xs, rv xa, iv 0, iv 1, .val .null, uu] [(.ref xs)])) rfl (by rw [hml]; rfl) rfl (hb hby d5_1) (by decide) (W := 0) (Nat.le_of_eq rfl) (by decide)
  refine oWk.st (fun _ kt => st _ (zI X hx hby d5_4 rfl rfl (zF X hx hby d5_5 rfl rfl ((if0 _ _).trans (feq (by decide)).2) (pc' := 27) rfl kt))) ?_
  have Oh := K.old O0 (allS og_xs all0)
  obtain ⟨T, X, e0, st⟩ := getS2 X hx hZ hown (host := "") (Or.inl (oW hw 49 rfl)) Via.refl e0 (S_Z.ext Oh) (g := (mkF m 27 #[rv xs, rv xa, iv 0, iv 1, .val .null, uu] [])) rfl (hb hby d5_27)
  refine oWk.st (fun _ kt => st _ (zH X hx hby d5_30 rfl rfl ((if0 _ _).trans (feq hz).1) (zA X hx hby d5_33 rfl rfl rfl (zI X hx hby d5_34 rfl rfl (zI X hx hby d5_35 rfl rfl kt))))) ?_
  have lt_xs := E_xs.lt
  have lt_xa := V_xa.lt
  obtain ⟨_, T, h, Lc2, X, e0, hQ, st⟩ := (cs17 hw).run X hx hZ hown e0 (A := [(.ref xa), (.int (0 : Int32)), (.int (1 : Int32))]) rfl (rC3_1 l Z a0 hw [] xa xk xc0 h0 Oh V_xa hc0_) (W := 0) (by decide) hml (Ls := #[rv xs, rv xa, iv 0, iv 1, .val .null, uu]) rfl (rest := []) rfl rfl hby d5_36
  obtain ⟨nb1, nk1, rfl, K1, gn_nb1, V_nb1⟩ := hQ
  have ge_nb1 := Nat.le_trans K.le gn_nb1
  have ne_xs_nb1 : xs ≠ nb1 := Nat.ne_of_lt (Nat.lt_of_lt_of_le lt_xs gn_nb1)
  have ne_xa_nb1 : xa ≠ nb1 := Nat.ne_of_lt (Nat.lt_of_lt_of_le lt_xa gn_nb1)
  have K := K.call K1 all0
  refine oWk.st (fun _ kt => st _ (zT X hx hby d5_39 rfl rfl rfl (l' := #[rv xs, rv xa, iv 0, iv 1, .val .null, rv nb1]) rfl (zA X hx hby d5_41 rfl rfl rfl (zB X hx hby d5_42 rfl rfl rfl (zI X hx hby d5_44 rfl rfl kt))))) ?_
  have Oh := K.old O0 (allS og_xs all0)
  obtain ⟨T, L4, X, e0, K, st⟩ := (cs18 hw).pure X hx hZ hown e0 K (A := [(.ref nb1), (.int (1 : Int32))]) rfl (rCo_1 l Z a0 hw [] nb1 nk1 (xc0.toInt8.toInt32) h Oh V_nb1) (W := 1) (by decide) hml (Ls := #[rv xs, rv xa, iv 0, iv 1, .val .null, rv nb1]) rfl (rest := [(.ref xs)]) rfl rfl hby d5_45
  refine oWk.st (fun _ kt => st _ kt) ?_
  have E_xs := (E_xs.keep K1.1)
  have F_coder_xs := (F_coder_xs.keep K1.1 nin0)
  obtain ⟨T, h, X, e0, W5, st⟩ := putFN X hx hZ hown (oW hw 34 rfl) Via.refl e0 F_coder_xs E_xs (Or.inr ⟨(oW hw 30 rfl), rfl, hnm⟩) (oW hw 15 rfl) (ty := .byte) (v' := .int (0 : Int32)) (by decide) rfl (by decide) (g := (mkF m 48 #[rv xs, rv xa, iv 0, iv 1, .val .null, rv nb1] [(.int 0), (.ref xs)])) rfl rfl (hb hby d5_48)
  have K := K.wr W5 (Or.inl (List.mem_of_getElem? (i := 0) rfl))
  have F_coder_xs := F_coder_xs.same W5
  refine oWk.st (fun _ kt => st _ (zA X hx hby d5_51 rfl rfl rfl (zB X hx hby d5_52 rfl rfl rfl kt))) ?_
  have E_xs := (E_xs.wr W5)
  have F_value_xs := ((F_value_xs.keep K1.1 nin0).other W5 (Or.inr (slot_ne (Or.inr (oW hw 29 rfl)) (Or.inr (oW hw 30 rfl)) (by decide) (t := (.array .byte)) (t' := .byte) (by decide) (by decide))))
  obtain ⟨T, h, X, e0, W6, st⟩ := putF X hx hZ hown (host := "") (Or.inl (oW hw 33 rfl)) Via.refl e0 F_value_xs E_xs (Or.inr ⟨(oW hw 29 rfl), rfl, hnm⟩) (oW hw 15 rfl) (ty := (.array .byte)) (by decide) rfl rfl (g := (mkF m 54 #[rv xs, rv xa, iv 0, iv 1, .val .null, rv nb1] [(.ref nb1), (.ref xs)])) rfl rfl (hb hby d5_54)
  have K := K.wr W6 (Or.inl (List.mem_of_getElem? (i := 0) rfl))
  have F_value_xs := F_value_xs.same W6
  refine oWk.to (mkF m 57 #[rv xs, rv xa, iv 0, iv 1, .val .null, rv nb1] []) (fun _ kt => st _ kt) ?_
  have E_xs := (E_xs.wr W6)
  have F_coder_xs := (F_coder_xs.other W6 (Or.inr (slot_ne (Or.inr (oW hw 30 rfl)) (Or.inr (oW hw 29 rfl)) (by decide) (t := .byte) (t' := (.array .byte)) (by decide) (by decide))))
  have V_nb1 := ((V_nb1.other W5 (Ne.symm ne_xs_nb1)).other W6 (Ne.symm ne_xs_nb1))
  exact oRetV X hx hlk hret (hb hby d5_57) (by rw [e0]; exact ⟨nb1, nk1, rfl, K, E_xs, F_coder_xs, F_value_xs, ge_nb1, V_nb1⟩) (by decide) (by decide)
def Q_rI1_1 (Z : State) (xs xa : Addr) (xk : ClassId) (xz : Int32) (xu xv : Value) (xc0 : Int32) (h0 : Heap) (v : Option Value) (h : Heap) (L : List Loc) : Prop := ∃ (nb : Addr) (nk : ClassId), v = none ∧ oKp h0 h [xs] L ∧ (Exa Z h xs Y0) ∧ (Fld Z h xs Y0 "coder" "B" (.int (0 : Int32))) ∧ (Fld Z h xs Y0 "value" "[B" (.ref nb)) ∧ (h0.size ≤ nb) ∧ (Arv Z h nb nk .byte (1 : Int32) [(ib xc0)] (.int (0 : Int32)))
theorem cs19 {a0 : Array Value} {Z : State} (hw : oHW a0 Z) : oCall Z Y0 (.invokespecial 27) yy17 jdk_42_method_149_code 6 none (oRi 4) := oCall.init rfl (oW hw 20 rfl) (oW hw 21 rfl) (oW hw 16 rfl) (oW hw 23 rfl) (by decide) pd_12
theorem rI1_1 (l : Launch) (Z : State) (a0 : Array Value) (hw : oHW a0 Z) (ws : List Jvm.Cond) (xs xa : Addr) (xk : ClassId) (xz : Int32) (xu xv : Value) (xc0 : Int32) (h0 : Heap) (O0 : Ext Z.heap h0) (S_Z : Sta Z Z.heap Y0 Y2 "Z" (.int xz)) (hz : ¬ xz = (0 : Int32)) (og_xs : Z.heap.size ≤ xs) (E_xs : Exa Z h0 xs Y0) (F_value_xs : Fld Z h0 xs Y0 "value" "[B" xu) (F_coder_xs : Fld Z h0 xs Y0 "coder" "B" xv) (V_xa : Arv Z h0 xa xk .char (1 : Int32) [(.int xc0)] (.int (0 : Int32))) (hc0_ : ¬ (255 : Int32) < xc0) :
    oCon l Z yy18 jdk_42_method_3_code 2 none ws ({ frames := 3, cells := 1, slots := 1, locals := 52 } : Room) #[(.ref xs), (.ref xa)] h0 (Q_rI1_1 Z xs xa xk xz xu xv xc0 h0) := by
  refine oCon.of (plainFor_of_name pn_0) ?_
  intro p e s m below meth c T X hx hby hml hown hnm hret hlk hZ e0
  have hml : c.maxLocals = 2 := hml
  have K : oKp h0 h0 [xs] [] := oKp.nil _ _
  refine oWk.cast (g' := (mkF m 0 #[rv xs, rv xa] [])) (by first | rfl | (simp [entryFrame, mkF, argsToLocals, Value.category]; done)) ?_
  refine oWk.st (fun _ kt => zA X hx hby d4_0 rfl rfl rfl (zA X hx hby d4_1 rfl rfl rfl (zK X hx hby d4_2 rfl (zA X hx hby d4_3 rfl rfl rfl (oAl X hx hZ e0 V_xa hby d4_4 rfl rfl (XS.aconstNull X.here hx rfl (hb hby d4_5) kt)))))) ?_
  have lt_xs := E_xs.lt
  have lt_xa := V_xa.lt
  have Oh := K.old O0 (allS og_xs all0)
  obtain ⟨_, T, h, Lc3, X, e0, hQ, st⟩ := (cs19 hw).run X hx hZ hown e0 (A := [(.ref xs), (.ref xa), (.int (0 : Int32)), (.int (1 : Int32)), .null]) ⟨rfl, _, _, rfl⟩ (rI4_1 l Z a0 hw [] xs xa xk xz xu xv xc0 h0 Oh S_Z hz og_xs E_xs F_value_xs F_coder_xs V_xa hc0_) (W := 0) (by decide) hml (Ls := #[rv xs, rv xa]) rfl (rest := []) rfl rfl hby d4_6
  obtain ⟨nb2, nk2, rfl, K2, E_xs, F_coder_xs, F_value_xs, gn_nb2, V_nb2⟩ := hQ
  have ge_nb2 := Nat.le_trans K.le gn_nb2
  have ne_xs_nb2 : xs ≠ nb2 := Nat.ne_of_lt (Nat.lt_of_lt_of_le lt_xs gn_nb2)
  have ne_xa_nb2 : xa ≠ nb2 := Nat.ne_of_lt (Nat.lt_of_lt_of_le lt_xa gn_nb2)
  have K := K.call K2 (allS (Or.inl (List.mem_of_getElem? (i := 0) rfl)) all0)
  refine oWk.to (mkF m 9 #[rv xs, rv xa] []) (fun _ kt => st _ kt) ?_
  exact oRetV X hx hlk hret (hb hby d4_9) (by rw [e0]; exact ⟨nb2, nk2, rfl, K, E_xs, F_coder_xs, F_value_xs, ge_nb2, V_nb2⟩) (by decide) (by decide)
def Q_rC5_2 (Z : State) (xa xd : Addr) (xk xl : ClassId) (xc0 xc1 : Int32) (h0 : Heap) (v : Option Value) (h : Heap) (L : List Loc) : Prop := v = some (.int (2 : Int32)) ∧ oKp h0 h [xd] L ∧ (Arv Z h xd xl .byte (2 : Int32) [(ib xc0), (ib xc1)] (.int (0 : Int32)))
theorem rC5_2 (l : Launch) (Z : State) (a0 : Array Value) (hw : oHW a0 Z) (ws : List Jvm.Cond) (xa xd : Addr) (xk xl : ClassId) (xc0 xc1 : Int32) (h0 : Heap) (O0 : Ext Z.heap h0) (og_xd : Z.heap.size ≤ xd) (ne_xa_xd : xa ≠ xd) (V_xa : Arv Z h0 xa xk .char (2 : Int32) [(.int xc0), (.int xc1)] (.int (0 : Int32))) (V_xd : Arv Z h0 xd xl .byte (2 : Int32) [(.int (0 : Int32)), (.int (0 : Int32))] (.int (0 : Int32))) (hc0_ : ¬ (255 : Int32) < xc0) (hc1_ : ¬ (255 : Int32) < xc1) :
    oCon l Z yy19 jdk_52_method_21_code 7 (some .int) ws ({ frames := 0, cells := 0, slots := 0, locals := 0 } : Room) #[(.ref xa), (.int (0 : Int32)), (.ref xd), (.int (0 : Int32)), (.int (2 : Int32))] h0 (Q_rC5_2 Z xa xd xk xl xc0 xc1 h0) := by
  refine oCon.of (plainFor_of_name pn_2) ?_
  intro p e s m below meth c T X hx hby hml hown hnm hret hlk hZ e0
  have hml : c.maxLocals = 7 := hml
  have K : oKp h0 h0 [xd] [] := oKp.nil _ _
  refine oWk.cast (g' := (mkF m 0 #[rv xa, iv 0, rv xd, iv 0, iv 2, uu, uu] [])) (by first | rfl | (simp [entryFrame, mkF, argsToLocals, Value.category]; done)) ?_
  refine oWk.to (mkF m 12 #[rv xa, iv 0, rv xd, iv 0, iv 2, iv 0, uu] [(.int 0), (.ref xa)]) (fun _ kt => zK X hx hby d16_0 rfl (zS X hx hby d16_1 rfl rfl (l' := #[rv xa, iv 0, rv xd, iv 0, iv 2, iv 0, uu]) rfl (zJ X hx hby d16_3 rfl rfl (zJ X hx hby d16_5 rfl rfl (zN X hx hby d16_7 rfl rfl (tlt (by decide)).2.1 (zA X hx hby d16_10 rfl rfl rfl (zI X hx hby d16_11 rfl rfl kt))))))) ?_
  refine oWk.to (mkF m 20 #[rv xa, iv 0, rv xd, iv 0, iv 2, iv 0, iv xc0] [(.int 255), (.int xc0)]) (fun _ kt => oLdC X hx hZ e0 V_xa (0 : Int32) (.int xc0) ⟨by decide, by decide⟩ rfl hby d16_12 rfl rfl (zS X hx hby d16_13 rfl rfl (l' := #[rv xa, iv 0, rv xd, iv 0, iv 2, iv 0, iv xc0]) rfl (zJ X hx hby d16_15 rfl rfl (zM X hx hby d16_17 rfl kt)))) ?_
  refine oWk.to (mkF m 31 #[rv xa, iv 0, rv xd, iv 0, iv 2, iv 0, iv xc0] [(ib xc0), (.int 0), (.ref xd)]) (fun _ kt => zY X hx hby d16_20 rfl rfl (flt hc0_).2.2.2 (pc' := 26) rfl (zA X hx hby d16_26 rfl rfl rfl (zI X hx hby d16_27 rfl rfl (zJ X hx hby d16_28 rfl rfl (XS.i2b X.here hx rfl (hb hby d16_30) rfl kt))))) ?_
  obtain ⟨cl2, Ar2, q2, Sz2, Nn2, Hs2, Ft2⟩ := id V_xd
  have hin2 : ¬ ((0 : Int32) < 0 ∨ cl2.slots.size ≤ ((0 : Int32)).toNatClampNeg) := inb_of Sz2 ⟨by decide, by decide⟩
  obtain ⟨T, h, X, e0, W2, st⟩ := stB X hx hZ e0 Ar2 (j := (0 : Int32)) hin2 (g := (mkF m 31 #[rv xa, iv 0, rv xd, iv 0, iv 2, iv 0, iv xc0] [(ib xc0), (.int 0), (.ref xd)])) rfl rfl (hb hby d16_31)
  have K := K.wr W2 (Or.inl (List.mem_of_getElem? (i := 0) rfl))
  have V_xd := Arv.set Ar2 q2 Sz2 Nn2 Hs2 Ft2 (fits_nar_byte _) W2 0 rfl (Nat.le_of_ble_eq_true rfl)
  rw [oB8 xc0] at V_xd
  replace V_xd : Arv Z h xd xl .byte (2 : Int32) [(ib xc0), (.int (0 : Int32))] (.int (0 : Int32)) := V_xd
  refine oWk.to (mkF m 7 #[rv xa, iv 1, rv xd, iv 1, iv 2, iv 1, iv xc0] [(.int 2), (.int 1)]) (fun _ kt => st _ (zC X hx hby d16_32 rfl rfl (l' := #[rv xa, iv ((0 : Int32) + (1 : Int32)), rv xd, iv 0, iv 2, iv 0, iv xc0]) rfl (zC X hx hby d16_35 rfl rfl (l' := #[rv xa, iv 1, rv xd, iv ((0 : Int32) + (1 : Int32)), iv 2, iv 0, iv xc0]) rfl (zC X hx hby d16_38 rfl rfl (l' := #[rv xa, iv 1, rv xd, iv 1, iv 2, iv ((0 : Int32) + (1 : Int32)), iv xc0]) rfl (zG X hx hby d16_41 rfl (pc' := 3) rfl (zJ X hx hby d16_3 rfl rfl (zJ X hx hby d16_5 rfl rfl kt))))))) ?_
  refine oWk.st (fun _ kt => zN X hx hby d16_7 rfl rfl (tlt (by decide)).2.1 (zA X hx hby d16_10 rfl rfl rfl (zI X hx hby d16_11 rfl rfl kt))) ?_
  have V_xa := (V_xa.other W2 ne_xa_xd)
  refine oWk.to (mkF m 20 #[rv xa, iv 1, rv xd, iv 1, iv 2, iv 1, iv xc1] [(.int 255), (.int xc1)]) (fun _ kt => oLdC X hx hZ e0 V_xa (1 : Int32) (.int xc1) ⟨by decide, by decide⟩ rfl hby d16_12 rfl rfl (zS X hx hby d16_13 rfl rfl (l' := #[rv xa, iv 1, rv xd, iv 1, iv 2, iv 1, iv xc1]) rfl (zJ X hx hby d16_15 rfl rfl (zM X hx hby d16_17 rfl kt)))) ?_
  refine oWk.to (mkF m 31 #[rv xa, iv 1, rv xd, iv 1, iv 2, iv 1, iv xc1] [(ib xc1), (.int 1), (.ref xd)]) (fun _ kt => zY X hx hby d16_20 rfl rfl (flt hc1_).2.2.2 (pc' := 26) rfl (zA X hx hby d16_26 rfl rfl rfl (zI X hx hby d16_27 rfl rfl (zJ X hx hby d16_28 rfl rfl (XS.i2b X.here hx rfl (hb hby d16_30) rfl kt))))) ?_
  obtain ⟨cl4, Ar4, q4, Sz4, Nn4, Hs4, Ft4⟩ := id V_xd
  have hin4 : ¬ ((1 : Int32) < 0 ∨ cl4.slots.size ≤ ((1 : Int32)).toNatClampNeg) := inb_of Sz4 ⟨by decide, by decide⟩
  obtain ⟨T, h, X, e0, W4, st⟩ := stB X hx hZ e0 Ar4 (j := (1 : Int32)) hin4 (g := (mkF m 31 #[rv xa, iv 1, rv xd, iv 1, iv 2, iv 1, iv xc1] [(ib xc1), (.int 1), (.ref xd)])) rfl rfl (hb hby d16_31)
  have K := K.wr W4 (Or.inl (List.mem_of_getElem? (i := 0) rfl))
  have V_xd := Arv.set Ar4 q4 Sz4 Nn4 Hs4 Ft4 (fits_nar_byte _) W4 1 rfl (Nat.le_of_ble_eq_true rfl)
  rw [oB8 xc1] at V_xd
  replace V_xd : Arv Z h xd xl .byte (2 : Int32) [(ib xc0), (ib xc1)] (.int (0 : Int32)) := V_xd
  refine oWk.to (mkF m 7 #[rv xa, iv 2, rv xd, iv 2, iv 2, iv 2, iv xc1] [(.int 2), (.int 2)]) (fun _ kt => st _ (zC X hx hby d16_32 rfl rfl (l' := #[rv xa, iv ((1 : Int32) + (1 : Int32)), rv xd, iv 1, iv 2, iv 1, iv xc1]) rfl (zC X hx hby d16_35 rfl rfl (l' := #[rv xa, iv 2, rv xd, iv ((1 : Int32) + (1 : Int32)), iv 2, iv 1, iv xc1]) rfl (zC X hx hby d16_38 rfl rfl (l' := #[rv xa, iv 2, rv xd, iv 2, iv 2, iv ((1 : Int32) + (1 : Int32)), iv xc1]) rfl (zG X hx hby d16_41 rfl (pc' := 3) rfl (zJ X hx hby d16_3 rfl rfl (zJ X hx hby d16_5 rfl rfl kt))))))) ?_
  refine oWk.to (mkF m 46 #[rv xa, iv 2, rv xd, iv 2, iv 2, iv 2, iv xc1] [(.int 2)]) (fun _ kt => zY X hx hby d16_7 rfl rfl (flt (by decide)).2.1 (pc' := 44) rfl (zJ X hx hby d16_44 rfl rfl kt)) ?_
  exact oRetI X hx hlk hret (hb hby d16_46) (by rw [e0]; exact ⟨rfl, K, V_xd⟩) (by decide) (by decide)
def Q_rC3_2 (Z : State) (xa : Addr) (xk : ClassId) (xc0 xc1 : Int32) (h0 : Heap) (v : Option Value) (h : Heap) (L : List Loc) : Prop := ∃ (nb : Addr) (nk : ClassId), v = some (.ref nb) ∧ oKp h0 h [] L ∧ (h0.size ≤ nb) ∧ (Arv Z h nb nk .byte (2 : Int32) [(ib xc0), (ib xc1)] (.int (0 : Int32)))
theorem rC3_2 (l : Launch) (Z : State) (a0 : Array Value) (hw : oHW a0 Z) (ws : List Jvm.Cond) (xa : Addr) (xk : ClassId) (xc0 xc1 : Int32) (h0 : Heap) (O0 : Ext Z.heap h0) (V_xa : Arv Z h0 xa xk .char (2 : Int32) [(.int xc0), (.int xc1)] (.int (0 : Int32))) (hc0_ : ¬ (255 : Int32) < xc0) (hc1_ : ¬ (255 : Int32) < xc1) :
    oCon l Z yy20 jdk_52_method_16_code 6 (some (.array .byte)) ws ({ frames := 1, cells := 1, slots := 2, locals := 18 } : Room) #[(.ref xa), (.int (0 : Int32)), (.int (2 : Int32))] h0 (Q_rC3_2 Z xa xk xc0 xc1 h0) := by
  refine oCon.of (plainFor_of_name pn_2) ?_
  intro p e s m below meth c T X hx hby hml hown hnm hret hlk hZ e0
  have hml : c.maxLocals = 6 := hml
  have K : oKp h0 h0 [] [] := oKp.nil _ _
  refine oWk.cast (g' := (mkF m 0 #[rv xa, iv 0, iv 2, uu, uu, uu] [])) (by first | rfl | (simp [entryFrame, mkF, argsToLocals, Value.category]; done)) ?_
  refine oWk.st (fun _ kt => zI X hx hby d15_0 rfl rfl kt) ?_
  obtain ⟨o1, g1⟩ : ∃ z, z = h0.size := ⟨_, rfl⟩
  have ne_xa_o1 : xa ≠ o1 := Nat.ne_of_lt (Nat.lt_of_lt_of_le V_xa.lt (Nat.le_of_eq g1.symm))
  have ge_o1 : h0.size ≤ o1 := Nat.le_trans K.le (Nat.le_of_eq g1.symm)
  obtain ⟨T, h, k1, X, e0, E1, A1, st⟩ := newP X hx hZ (oW hw 28 rfl) e0 (g := (mkF m 1 #[rv xa, iv 0, iv 2, uu, uu, uu] [(.int 2)])) rfl (hb hby d15_1) rfl (by decide) (cap := 2) (by decide) (by decide) (by decide) (by decide)
  rw [← g1] at A1 st
  have K := K.ext E1
  have V_o1 : Arv Z h o1 k1 .byte (2 : Int32) [(.int (0 : Int32)), (.int (0 : Int32))] (.int (0 : Int32)) := (Arv.new A1 (by decide)).pad (pad_rep [] (.int (0 : Int32)) 2)
  refine oWk.to (mkF m 9 #[rv xa, iv 0, iv 2, rv o1, uu, uu] [(.int 2), (.int 0), (.ref o1), (.int 0), (.ref xa)]) (fun _ kt => st _ (zTn X hx hby d15_3 rfl rfl rfl (l' := #[rv xa, iv 0, iv 2, rv o1, uu, uu]) rfl (zA X hx hby d15_4 rfl rfl rfl (zI X hx hby d15_5 rfl rfl (zA X hx hby d15_6 rfl rfl rfl (zK X hx hby d15_7 rfl (zI X hx hby d15_8 rfl rfl kt))))))) ?_
  have V_xa := (V_xa.ext E1)
  have Oh := K.old O0 all0
  obtain ⟨_, T, h, Lc3, X, e0, hQ, st⟩ := (cs16 hw).run X hx hZ hown e0 (A := [(.ref xa), (.int (0 : Int32)), (.ref o1), (.int (0 : Int32)), (.int (2 : Int32))]) rfl (rC5_2 l Z a0 hw [] xa o1 xk k1 xc0 xc1 h Oh (Nat.le_trans O0.1 ge_o1) ne_xa_o1 V_xa V_o1 hc0_ hc1_) (W := 0) (by decide) hml (Ls := #[rv xa, iv 0, iv 2, rv o1, uu, uu]) rfl (rest := []) rfl rfl hby d15_9
  obtain ⟨rfl, K2, V_o1⟩ := hQ
  have K := K.call K2 (allS (Or.inr ge_o1) all0)
  refine oWk.to (mkF m 58 #[rv xa, iv 0, iv 2, rv o1, iv 2, uu] [(.ref o1)]) (fun _ kt => st _ (zS X hx hby d15_12 rfl rfl (l' := #[rv xa, iv 0, iv 2, rv o1, iv 2, uu]) rfl (zJ X hx hby d15_14 rfl rfl (zI X hx hby d15_16 rfl rfl (zY X hx hby d15_17 rfl rfl (teq (by decide)).1 (pc' := 57) rfl (zA X hx hby d15_57 rfl rfl rfl kt)))))) ?_
  exact oRetA X hx hlk hret rfl rfl (hb hby d15_58) (by rw [e0]; exact ⟨o1, k1, rfl, K, ge_o1, V_o1⟩) (by decide) (by decide)
theorem rCo_2 (l : Launch) (Z : State) (a0 : Array Value) (hw : oHW a0 Z) (ws : List Jvm.Cond) (xb : Addr) (xk : ClassId) (xy0 xy1 : Int32) (h0 : Heap) (O0 : Ext Z.heap h0) (V_xb : Arv Z h0 xb xk .byte (2 : Int32) [(.int xy0), (.int xy1)] (.int (0 : Int32))) :
    oCon l Z yy21 jdk_52_method_15_code 2 (some .byte) ws ({ frames := 0, cells := 0, slots := 0, locals := 0 } : Room) #[(.ref xb), (.int (2 : Int32))] h0 (oPq (some (.int (0 : Int32))) h0) := by
  refine oCon.of (plainFor_of_name pn_2) ?_
  intro p e s m below meth c T X hx hby hml hown hnm hret hlk hZ e0
  have hml : c.maxLocals = 2 := hml
  have K : oKp h0 h0 [] [] := oKp.nil _ _
  refine oWk.cast (g' := (mkF m 0 #[rv xb, iv 2] [])) (by first | rfl | (simp [entryFrame, mkF, argsToLocals, Value.category]; done)) ?_
  refine oWk.to (mkF m 8 #[rv xb, iv 2] [(.int 0)]) (fun _ kt => zI X hx hby d17_0 rfl rfl (zA X hx hby d17_1 rfl rfl rfl (oAl X hx hZ e0 V_xb hby d17_2 rfl rfl (XS.isub X.here hx rfl (hb hby d17_3) rfl (zL X hx hby d17_4 rfl (XS.iushr X.here hx rfl (hb hby d17_6) rfl (XS.i2b X.here hx rfl (hb hby d17_7) rfl kt))))))) ?_
  exact oRetN X hx hlk hret (Or.inl rfl) rfl (hb hby d17_8) (by rw [e0]; exact ⟨rfl, rfl, K⟩) (by decide) (by decide)
def Q_rI4_2 (Z : State) (xs xa : Addr) (xk : ClassId) (xz : Int32) (xu xv : Value) (xc0 xc1 : Int32) (h0 : Heap) (v : Option Value) (h : Heap) (L : List Loc) : Prop := ∃ (nb : Addr) (nk : ClassId), v = none ∧ oKp h0 h [xs] L ∧ (Exa Z h xs Y0) ∧ (Fld Z h xs Y0 "coder" "B" (.int (0 : Int32))) ∧ (Fld Z h xs Y0 "value" "[B" (.ref nb)) ∧ (h0.size ≤ nb) ∧ (Arv Z h nb nk .byte (2 : Int32) [(ib xc0), (ib xc1)] (.int (0 : Int32)))
theorem rI4_2 (l : Launch) (Z : State) (a0 : Array Value) (hw : oHW a0 Z) (ws : List Jvm.Cond) (xs xa : Addr) (xk : ClassId) (xz : Int32) (xu xv : Value) (xc0 xc1 : Int32) (h0 : Heap) (O0 : Ext Z.heap h0) (S_Z : Sta Z Z.heap Y0 Y2 "Z" (.int xz)) (hz : ¬ xz = (0 : Int32)) (og_xs : Z.heap.size ≤ xs) (E_xs : Exa Z h0 xs Y0) (F_value_xs : Fld Z h0 xs Y0 "value" "[B" xu) (F_coder_xs : Fld Z h0 xs Y0 "coder" "B" xv) (V_xa : Arv Z h0 xa xk .char (2 : Int32) [(.int xc0), (.int xc1)] (.int (0 : Int32))) (hc0_ : ¬ (255 : Int32) < xc0) (hc1_ : ¬ (255 : Int32) < xc1) :
    oCon l Z yy17 jdk_42_method_149_code 6 none ws ({ frames := 2, cells := 1, slots := 2, locals := 35 } : Room) #[(.ref xs), (.ref xa), (.int (0 : Int32)), (.int (2 : Int32)), .null] h0 (Q_rI4_2 Z xs xa xk xz xu xv xc0 xc1 h0) := by
  refine oCon.of (plainFor_of_name pn_0) ?_
  intro p e s m below meth c T X hx hby hml hown hnm hret hlk hZ e0
  have hml : c.maxLocals = 6 := hml
  have K : oKp h0 h0 [xs] [] := oKp.nil _ _
  refine oWk.cast (g' := (mkF m 0 #[rv xs, rv xa, iv 0, iv 2, .val .null, uu] [])) (by first | rfl | (simp [entryFrame, mkF, argsToLocals, Value.category]; done)) ?_
  refine oWk.st (fun _ kt => zA X hx hby d5_0 rfl rfl rfl kt) ?_
  obtain ⟨T, X, e0, st⟩ := initO X hx hZ hown (oW hw 24 rfl) (oW hw 25 rfl) (oW hw 26 rfl) e0 (g := (mkF m 1 #[rv xs, rv xa, iv 0, iv 2, .val .null, uu] [(.ref xs)])) rfl (by rw [hml]; rfl) rfl (hb hby d5_1) (by decide) (W := 0) (Nat.le_of_eq rfl) (by decide)
  refine oWk.st (fun _ kt => st _ (zI X hx hby d5_4 rfl rfl (zF X hx hby d5_5 rfl rfl ((if0 _ _).trans (feq (by decide)).2) (pc' := 27) rfl kt))) ?_
  have Oh := K.old O0 (allS og_xs all0)
  obtain ⟨T, X, e0, st⟩ := getS2 X hx hZ hown (host := "") (Or.inl (oW hw 49 rfl)) Via.refl e0 (S_Z.ext Oh) (g := (mkF m 27 #[rv xs, rv xa, iv 0, iv 2, .val .null, uu] [])) rfl (hb hby d5_27)
  refine oWk.st (fun _ kt => st _ (zH X hx hby d5_30 rfl rfl ((if0 _ _).trans (feq hz).1) (zA X hx hby d5_33 rfl rfl rfl (zI X hx hby d5_34 rfl rfl (zI X hx hby d5_35 rfl rfl kt))))) ?_
  have lt_xs := E_xs.lt
  have lt_xa := V_xa.lt
  obtain ⟨_, T, h, Lc2, X, e0, hQ, st⟩ := (cs17 hw).run X hx hZ hown e0 (A := [(.ref xa), (.int (0 : Int32)), (.int (2 : Int32))]) rfl (rC3_2 l Z a0 hw [] xa xk xc0 xc1 h0 Oh V_xa hc0_ hc1_) (W := 0) (by decide) hml (Ls := #[rv xs, rv xa, iv 0, iv 2, .val .null, uu]) rfl (rest := []) rfl rfl hby d5_36
  obtain ⟨nb1, nk1, rfl, K1, gn_nb1, V_nb1⟩ := hQ
  have ge_nb1 := Nat.le_trans K.le gn_nb1
  have ne_xs_nb1 : xs ≠ nb1 := Nat.ne_of_lt (Nat.lt_of_lt_of_le lt_xs gn_nb1)
  have ne_xa_nb1 : xa ≠ nb1 := Nat.ne_of_lt (Nat.lt_of_lt_of_le lt_xa gn_nb1)
  have K := K.call K1 all0
  refine oWk.st (fun _ kt => st _ (zT X hx hby d5_39 rfl rfl rfl (l' := #[rv xs, rv xa, iv 0, iv 2, .val .null, rv nb1]) rfl (zA X hx hby d5_41 rfl rfl rfl (zB X hx hby d5_42 rfl rfl rfl (zI X hx hby d5_44 rfl rfl kt))))) ?_
  have Oh := K.old O0 (allS og_xs all0)
  obtain ⟨T, L4, X, e0, K, st⟩ := (cs18 hw).pure X hx hZ hown e0 K (A := [(.ref nb1), (.int (2 : Int32))]) rfl (rCo_2 l Z a0 hw [] nb1 nk1 (xc0.toInt8.toInt32) (xc1.toInt8.toInt32) h Oh V_nb1) (W := 1) (by decide) hml (Ls := #[rv xs, rv xa, iv 0, iv 2, .val .null, rv nb1]) rfl (rest := [(.ref xs)]) rfl rfl hby d5_45
  refine oWk.st (fun _ kt => st _ kt) ?_
  have E_xs := (E_xs.keep K1.1)
  have F_coder_xs := (F_coder_xs.keep K1.1 nin0)
  obtain ⟨T, h, X, e0, W5, st⟩ := putFN X hx hZ hown (oW hw 34 rfl) Via.refl e0 F_coder_xs E_xs (Or.inr ⟨(oW hw 30 rfl), rfl, hnm⟩) (oW hw 15 rfl) (ty := .byte) (v' := .int (0 : Int32)) (by decide) rfl (by decide) (g := (mkF m 48 #[rv xs, rv xa, iv 0, iv 2, .val .null, rv nb1] [(.int 0), (.ref xs)])) rfl rfl (hb hby d5_48)
  have K := K.wr W5 (Or.inl (List.mem_of_getElem? (i := 0) rfl))
  have F_coder_xs := F_coder_xs.same W5
  refine oWk.st (fun _ kt => st _ (zA X hx hby d5_51 rfl rfl rfl (zB X hx hby d5_52 rfl rfl rfl kt))) ?_
  have E_xs := (E_xs.wr W5)
  have F_value_xs := ((F_value_xs.keep K1.1 nin0).other W5 (Or.inr (slot_ne (Or.inr (oW hw 29 rfl)) (Or.inr (oW hw 30 rfl)) (by decide) (t := (.array .byte)) (t' := .byte) (by decide) (by decide))))
  obtain ⟨T, h, X, e0, W6, st⟩ := putF X hx hZ hown (host := "") (Or.inl (oW hw 33 rfl)) Via.refl e0 F_value_xs E_xs (Or.inr ⟨(oW hw 29 rfl), rfl, hnm⟩) (oW hw 15 rfl) (ty := (.array .byte)) (by decide) rfl rfl (g := (mkF m 54 #[rv xs, rv xa, iv 0, iv 2, .val .null, rv nb1] [(.ref nb1), (.ref xs)])) rfl rfl (hb hby d5_54)
  have K := K.wr W6 (Or.inl (List.mem_of_getElem? (i := 0) rfl))
  have F_value_xs := F_value_xs.same W6
  refine oWk.to (mkF m 57 #[rv xs, rv xa, iv 0, iv 2, .val .null, rv nb1] []) (fun _ kt => st _ kt) ?_
  have E_xs := (E_xs.wr W6)
  have F_coder_xs := (F_coder_xs.other W6 (Or.inr (slot_ne (Or.inr (oW hw 30 rfl)) (Or.inr (oW hw 29 rfl)) (by decide) (t := .byte) (t' := (.array .byte)) (by decide) (by decide))))
  have V_nb1 := ((V_nb1.other W5 (Ne.symm ne_xs_nb1)).other W6 (Ne.symm ne_xs_nb1))
  exact oRetV X hx hlk hret (hb hby d5_57) (by rw [e0]; exact ⟨nb1, nk1, rfl, K, E_xs, F_coder_xs, F_value_xs, ge_nb1, V_nb1⟩) (by decide) (by decide)
def Q_rI1_2 (Z : State) (xs xa : Addr) (xk : ClassId) (xz : Int32) (xu xv : Value) (xc0 xc1 : Int32) (h0 : Heap) (v : Option Value) (h : Heap) (L : List Loc) : Prop := ∃ (nb : Addr) (nk : ClassId), v = none ∧ oKp h0 h [xs] L ∧ (Exa Z h xs Y0) ∧ (Fld Z h xs Y0 "coder" "B" (.int (0 : Int32))) ∧ (Fld Z h xs Y0 "value" "[B" (.ref nb)) ∧ (h0.size ≤ nb) ∧ (Arv Z h nb nk .byte (2 : Int32) [(ib xc0), (ib xc1)] (.int (0 : Int32)))
theorem rI1_2 (l : Launch) (Z : State) (a0 : Array Value) (hw : oHW a0 Z) (ws : List Jvm.Cond) (xs xa : Addr) (xk : ClassId) (xz : Int32) (xu xv : Value) (xc0 xc1 : Int32) (h0 : Heap) (O0 : Ext Z.heap h0) (S_Z : Sta Z Z.heap Y0 Y2 "Z" (.int xz)) (hz : ¬ xz = (0 : Int32)) (og_xs : Z.heap.size ≤ xs) (E_xs : Exa Z h0 xs Y0) (F_value_xs : Fld Z h0 xs Y0 "value" "[B" xu) (F_coder_xs : Fld Z h0 xs Y0 "coder" "B" xv) (V_xa : Arv Z h0 xa xk .char (2 : Int32) [(.int xc0), (.int xc1)] (.int (0 : Int32))) (hc0_ : ¬ (255 : Int32) < xc0) (hc1_ : ¬ (255 : Int32) < xc1) :
    oCon l Z yy18 jdk_42_method_3_code 2 none ws ({ frames := 3, cells := 1, slots := 2, locals := 52 } : Room) #[(.ref xs), (.ref xa)] h0 (Q_rI1_2 Z xs xa xk xz xu xv xc0 xc1 h0) := by
  refine oCon.of (plainFor_of_name pn_0) ?_
  intro p e s m below meth c T X hx hby hml hown hnm hret hlk hZ e0
  have hml : c.maxLocals = 2 := hml
  have K : oKp h0 h0 [xs] [] := oKp.nil _ _
  refine oWk.cast (g' := (mkF m 0 #[rv xs, rv xa] [])) (by first | rfl | (simp [entryFrame, mkF, argsToLocals, Value.category]; done)) ?_
  refine oWk.st (fun _ kt => zA X hx hby d4_0 rfl rfl rfl (zA X hx hby d4_1 rfl rfl rfl (zK X hx hby d4_2 rfl (zA X hx hby d4_3 rfl rfl rfl (oAl X hx hZ e0 V_xa hby d4_4 rfl rfl (XS.aconstNull X.here hx rfl (hb hby d4_5) kt)))))) ?_
  have lt_xs := E_xs.lt
  have lt_xa := V_xa.lt
  have Oh := K.old O0 (allS og_xs all0)
  obtain ⟨_, T, h, Lc3, X, e0, hQ, st⟩ := (cs19 hw).run X hx hZ hown e0 (A := [(.ref xs), (.ref xa), (.int (0 : Int32)), (.int (2 : Int32)), .null]) ⟨rfl, _, _, rfl⟩ (rI4_2 l Z a0 hw [] xs xa xk xz xu xv xc0 xc1 h0 Oh S_Z hz og_xs E_xs F_value_xs F_coder_xs V_xa hc0_ hc1_) (W := 0) (by decide) hml (Ls := #[rv xs, rv xa]) rfl (rest := []) rfl rfl hby d4_6
  obtain ⟨nb2, nk2, rfl, K2, E_xs, F_coder_xs, F_value_xs, gn_nb2, V_nb2⟩ := hQ
  have ge_nb2 := Nat.le_trans K.le gn_nb2
  have ne_xs_nb2 : xs ≠ nb2 := Nat.ne_of_lt (Nat.lt_of_lt_of_le lt_xs gn_nb2)
  have ne_xa_nb2 : xa ≠ nb2 := Nat.ne_of_lt (Nat.lt_of_lt_of_le lt_xa gn_nb2)
  have K := K.call K2 (allS (Or.inl (List.mem_of_getElem? (i := 0) rfl)) all0)
  refine oWk.to (mkF m 9 #[rv xs, rv xa] []) (fun _ kt => st _ kt) ?_
  exact oRetV X hx hlk hret (hb hby d4_9) (by rw [e0]; exact ⟨nb2, nk2, rfl, K, E_xs, F_coder_xs, F_value_xs, ge_nb2, V_nb2⟩) (by decide) (by decide)
def Q_rC5_3 (Z : State) (xa xd : Addr) (xk xl : ClassId) (xc0 xc1 xc2 : Int32) (h0 : Heap) (v : Option Value) (h : Heap) (L : List Loc) : Prop := v = some (.int (3 : Int32)) ∧ oKp h0 h [xd] L ∧ (Arv Z h xd xl .byte (3 : Int32) [(ib xc0), (ib xc1), (ib xc2)] (.int (0 : Int32)))
theorem rC5_3 (l : Launch) (Z : State) (a0 : Array Value) (hw : oHW a0 Z) (ws : List Jvm.Cond) (xa xd : Addr) (xk xl : ClassId) (xc0 xc1 xc2 : Int32) (h0 : Heap) (O0 : Ext Z.heap h0) (og_xd : Z.heap.size ≤ xd) (ne_xa_xd : xa ≠ xd) (V_xa : Arv Z h0 xa xk .char (3 : Int32) [(.int xc0), (.int xc1), (.int xc2)] (.int (0 : Int32))) (V_xd : Arv Z h0 xd xl .byte (3 : Int32) [(.int (0 : Int32)), (.int (0 : Int32)), (.int (0 : Int32))] (.int (0 : Int32))) (hc0_ : ¬ (255 : Int32) < xc0) (hc1_ : ¬ (255 : Int32) < xc1) (hc2_ : ¬ (255 : Int32) < xc2) :
    oCon l Z yy19 jdk_52_method_21_code 7 (some .int) ws ({ frames := 0, cells := 0, slots := 0, locals := 0 } : Room) #[(.ref xa), (.int (0 : Int32)), (.ref xd), (.int (0 : Int32)), (.int (3 : Int32))] h0 (Q_rC5_3 Z xa xd xk xl xc0 xc1 xc2 h0) := by
  refine oCon.of (plainFor_of_name pn_2) ?_
  intro p e s m below meth c T X hx hby hml hown hnm hret hlk hZ e0
  have hml : c.maxLocals = 7 := hml
  have K : oKp h0 h0 [xd] [] := oKp.nil _ _
  refine oWk.cast (g' := (mkF m 0 #[rv xa, iv 0, rv xd, iv 0, iv 3, uu, uu] [])) (by first | rfl | (simp [entryFrame, mkF, argsToLocals, Value.category]; done)) ?_
  refine oWk.to (mkF m 12 #[rv xa, iv 0, rv xd, iv 0, iv 3, iv 0, uu] [(.int 0), (.ref xa)]) (fun _ kt => zK X hx hby d16_0 rfl (zS X hx hby d16_1 rfl rfl (l' := #[rv xa, iv 0, rv xd, iv 0, iv 3, iv 0, uu]) rfl (zJ X hx hby d16_3 rfl rfl (zJ X hx hby d16_5 rfl rfl (zN X hx hby d16_7 rfl rfl (tlt (by decide)).2.1 (zA X hx hby d16_10 rfl rfl rfl (zI X hx hby d16_11 rfl rfl kt))))))) ?_
  refine oWk.to (mkF m 20 #[rv xa, iv 0, rv xd, iv 0, iv 3, iv 0, iv xc0] [(.int 255), (.int xc0)]) (fun _ kt => oLdC X hx hZ e0 V_xa (0 : Int32) (.int xc0) ⟨by decide, by decide⟩ rfl hby d16_12 rfl rfl (zS X hx hby d16_13 rfl rfl (l' := #[rv xa, iv 0, rv xd, iv 0, iv 3, iv 0, iv xc0]) rfl (zJ X hx hby d16_15 rfl rfl (zM X hx hby d16_17 rfl kt)))) ?_
  refine oWk.to (mkF m 31 #[rv xa, iv 0, rv xd, iv 0, iv 3, iv 0, iv xc0] [(ib xc0), (.int 0), (.ref xd)]) (fun _ kt => zY X hx hby d16_20 rfl rfl (flt hc0_).2.2.2 (pc' := 26) rfl (zA X hx hby d16_26 rfl rfl rfl (zI X hx hby d16_27 rfl rfl (zJ X hx hby d16_28 rfl rfl (XS.i2b X.here hx rfl (hb hby d16_30) rfl kt))))) ?_
  obtain ⟨cl2, Ar2, q2, Sz2, Nn2, Hs2, Ft2⟩ := id V_xd
  have hin2 : ¬ ((0 : Int32) < 0 ∨ cl2.slots.size ≤ ((0 : Int32)).toNatClampNeg) := inb_of Sz2 ⟨by decide, by decide⟩
  obtain ⟨T, h, X, e0, W2, st⟩ := stB X hx hZ e0 Ar2 (j := (0 : Int32)) hin2 (g := (mkF m 31 #[rv xa, iv 0, rv xd, iv 0, iv 3, iv 0, iv xc0] [(ib xc0), (.int 0), (.ref xd)])) rfl rfl (hb hby d16_31)
  have K := K.wr W2 (Or.inl (List.mem_of_getElem? (i := 0) rfl))
  have V_xd := Arv.set Ar2 q2 Sz2 Nn2 Hs2 Ft2 (fits_nar_byte _) W2 0 rfl (Nat.le_of_ble_eq_true rfl)
  rw [oB8 xc0] at V_xd
  replace V_xd : Arv Z h xd xl .byte (3 : Int32) [(ib xc0), (.int (0 : Int32)), (.int (0 : Int32))] (.int (0 : Int32)) := V_xd
  refine oWk.to (mkF m 7 #[rv xa, iv 1, rv xd, iv 1, iv 3, iv 1, iv xc0] [(.int 3), (.int 1)]) (fun _ kt => st _ (zC X hx hby d16_32 rfl rfl (l' := #[rv xa, iv ((0 : Int32) + (1 : Int32)), rv xd, iv 0, iv 3, iv 0, iv xc0]) rfl (zC X hx hby d16_35 rfl rfl (l' := #[rv xa, iv 1, rv xd, iv ((0 : Int32) + (1 : Int32)), iv 3, iv 0, iv xc0]) rfl (zC X hx hby d16_38 rfl rfl (l' := #[rv xa, iv 1, rv xd, iv 1, iv 3, iv ((0 : Int32) + (1 : Int32)), iv xc0]) rfl (zG X hx hby d16_41 rfl (pc' := 3) rfl (zJ X hx hby d16_3 rfl rfl (zJ X hx hby d16_5 rfl rfl kt))))))) ?_
  refine oWk.st (fun _ kt => zN X hx hby d16_7 rfl rfl (tlt (by decide)).2.1 (zA X hx hby d16_10 rfl rfl rfl (zI X hx hby d16_11 rfl rfl kt))) ?_
  have V_xa := (V_xa.other W2 ne_xa_xd)
  refine oWk.to (mkF m 20 #[rv xa, iv 1, rv xd, iv 1, iv 3, iv 1, iv xc1] [(.int 255), (.int xc1)]) (fun _ kt => oLdC X hx hZ e0 V_xa (1 : Int32) (.int xc1) ⟨by decide, by decide⟩ rfl hby d16_12 rfl rfl (zS X hx hby d16_13 rfl rfl (l' := #[rv xa, iv 1, rv xd, iv 1, iv 3, iv 1, iv xc1]) rfl (zJ X hx hby d16_15 rfl rfl (zM X hx hby d16_17 rfl kt)))) ?_
  refine oWk.to (mkF m 31 #[rv xa, iv 1, rv xd, iv 1, iv 3, iv 1, iv xc1] [(ib xc1), (.int 1), (.ref xd)]) (fun _ kt => zY X hx hby d16_20 rfl rfl (flt hc1_).2.2.2 (pc' := 26) rfl (zA X hx hby d16_26 rfl rfl rfl (zI X hx hby d16_27 rfl rfl (zJ X hx hby d16_28 rfl rfl (XS.i2b X.here hx rfl (hb hby d16_30) rfl kt))))) ?_
  obtain ⟨cl4, Ar4, q4, Sz4, Nn4, Hs4, Ft4⟩ := id V_xd
  have hin4 : ¬ ((1 : Int32) < 0 ∨ cl4.slots.size ≤ ((1 : Int32)).toNatClampNeg) := inb_of Sz4 ⟨by decide, by decide⟩
  obtain ⟨T, h, X, e0, W4, st⟩ := stB X hx hZ e0 Ar4 (j := (1 : Int32)) hin4 (g := (mkF m 31 #[rv xa, iv 1, rv xd, iv 1, iv 3, iv 1, iv xc1] [(ib xc1), (.int 1), (.ref xd)])) rfl rfl (hb hby d16_31)
  have K := K.wr W4 (Or.inl (List.mem_of_getElem? (i := 0) rfl))
  have V_xd := Arv.set Ar4 q4 Sz4 Nn4 Hs4 Ft4 (fits_nar_byte _) W4 1 rfl (Nat.le_of_ble_eq_true rfl)
  rw [oB8 xc1] at V_xd
  replace V_xd : Arv Z h xd xl .byte (3 : Int32) [(ib xc0), (ib xc1), (.int (0 : Int32))] (.int (0 : Int32)) := V_xd
  refine oWk.to (mkF m 7 #[rv xa, iv 2, rv xd, iv 2, iv 3, iv 2, iv xc1] [(.int 3), (.int 2)]) (fun _ kt => st _ (zC X hx hby d16_32 rfl rfl (l' := #[rv xa, iv ((1 : Int32) + (1 : Int32)), rv xd, iv 1, iv 3, iv 1, iv xc1]) rfl (zC X hx hby d16_35 rfl rfl (l' := #[rv xa, iv 2, rv xd, iv ((1 : Int32) + (1 : Int32)), iv 3, iv 1, iv xc1]) rfl (zC X hx hby d16_38 rfl rfl (l' := #[rv xa, iv 2, rv xd, iv 2, iv 3, iv ((1 : Int32) + (1 : Int32)), iv xc1]) rfl (zG X hx hby d16_41 rfl (pc' := 3) rfl (zJ X hx hby d16_3 rfl rfl (zJ X hx hby d16_5 rfl rfl kt))))))) ?_
  refine oWk.st (fun _ kt => zN X hx hby d16_7 rfl rfl (tlt (by decide)).2.1 (zA X hx hby d16_10 rfl rfl rfl (zI X hx hby d16_11 rfl rfl kt))) ?_
  have V_xa := (V_xa.other W4 ne_xa_xd)
  refine oWk.to (mkF m 20 #[rv xa, iv 2, rv xd, iv 2, iv 3, iv 2, iv xc2] [(.int 255), (.int xc2)]) (fun _ kt => oLdC X hx hZ e0 V_xa (2 : Int32) (.int xc2) ⟨by decide, by decide⟩ rfl hby d16_12 rfl rfl (zS X hx hby d16_13 rfl rfl (l' := #[rv xa, iv 2, rv xd, iv 2, iv 3, iv 2, iv xc2]) rfl (zJ X hx hby d16_15 rfl rfl (zM X hx hby d16_17 rfl kt)))) ?_
  refine oWk.to (mkF m 31 #[rv xa, iv 2, rv xd, iv 2, iv 3, iv 2, iv xc2] [(ib xc2), (.int 2), (.ref xd)]) (fun _ kt => zY X hx hby d16_20 rfl rfl (flt hc2_).2.2.2 (pc' := 26) rfl (zA X hx hby d16_26 rfl rfl rfl (zI X hx hby d16_27 rfl rfl (zJ X hx hby d16_28 rfl rfl (XS.i2b X.here hx rfl (hb hby d16_30) rfl kt))))) ?_
  obtain ⟨cl6, Ar6, q6, Sz6, Nn6, Hs6, Ft6⟩ := id V_xd
  have hin6 : ¬ ((2 : Int32) < 0 ∨ cl6.slots.size ≤ ((2 : Int32)).toNatClampNeg) := inb_of Sz6 ⟨by decide, by decide⟩
  obtain ⟨T, h, X, e0, W6, st⟩ := stB X hx hZ e0 Ar6 (j := (2 : Int32)) hin6 (g := (mkF m 31 #[rv xa, iv 2, rv xd, iv 2, iv 3, iv 2, iv xc2] [(ib xc2), (.int 2), (.ref xd)])) rfl rfl (hb hby d16_31)
  have K := K.wr W6 (Or.inl (List.mem_of_getElem? (i := 0) rfl))
  have V_xd := Arv.set Ar6 q6 Sz6 Nn6 Hs6 Ft6 (fits_nar_byte _) W6 2 rfl (Nat.le_of_ble_eq_true rfl)
  rw [oB8 xc2] at V_xd
  replace V_xd : Arv Z h xd xl .byte (3 : Int32) [(ib xc0), (ib xc1), (ib xc2)] (.int (0 : Int32)) := V_xd
  refine oWk.to (mkF m 7 #[rv xa, iv 3, rv xd, iv 3, iv 3, iv 3, iv xc2] [(.int 3), (.int 3)]) (fun _ kt => st _ (zC X hx hby d16_32 rfl rfl (l' := #[rv xa, iv ((2 : Int32) + (1 : Int32)), rv xd, iv 2, iv 3, iv 2, iv xc2]) rfl (zC X hx hby d16_35 rfl rfl (l' := #[rv xa, iv 3, rv xd, iv ((2 : Int32) + (1 : Int32)), iv 3, iv 2, iv xc2]) rfl (zC X hx hby d16_38 rfl rfl (l' := #[rv xa, iv 3, rv xd, iv 3, iv 3, iv ((2 : Int32) + (1 : Int32)), iv xc2]) rfl (zG X hx hby d16_41 rfl (pc' := 3) rfl (zJ X hx hby d16_3 rfl rfl (zJ X hx hby d16_5 rfl rfl kt))))))) ?_
  refine oWk.to (mkF m 46 #[rv xa, iv 3, rv xd, iv 3, iv 3, iv 3, iv xc2] [(.int 3)]) (fun _ kt => zY X hx hby d16_7 rfl rfl (flt (by decide)).2.1 (pc' := 44) rfl (zJ X hx hby d16_44 rfl rfl kt)) ?_
  exact oRetI X hx hlk hret (hb hby d16_46) (by rw [e0]; exact ⟨rfl, K, V_xd⟩) (by decide) (by decide)
def Q_rC3_3 (Z : State) (xa : Addr) (xk : ClassId) (xc0 xc1 xc2 : Int32) (h0 : Heap) (v : Option Value) (h : Heap) (L : List Loc) : Prop := ∃ (nb : Addr) (nk : ClassId), v = some (.ref nb) ∧ oKp h0 h [] L ∧ (h0.size ≤ nb) ∧ (Arv Z h nb nk .byte (3 : Int32) [(ib xc0), (ib xc1), (ib xc2)] (.int (0 : Int32)))
theorem rC3_3 (l : Launch) (Z : State) (a0 : Array Value) (hw : oHW a0 Z) (ws : List Jvm.Cond) (xa : Addr) (xk : ClassId) (xc0 xc1 xc2 : Int32) (h0 : Heap) (O0 : Ext Z.heap h0) (V_xa : Arv Z h0 xa xk .char (3 : Int32) [(.int xc0), (.int xc1), (.int xc2)] (.int (0 : Int32))) (hc0_ : ¬ (255 : Int32) < xc0) (hc1_ : ¬ (255 : Int32) < xc1) (hc2_ : ¬ (255 : Int32) < xc2) :
    oCon l Z yy20 jdk_52_method_16_code 6 (some (.array .byte)) ws ({ frames := 1, cells := 1, slots := 3, locals := 18 } : Room) #[(.ref xa), (.int (0 : Int32)), (.int (3 : Int32))] h0 (Q_rC3_3 Z xa xk xc0 xc1 xc2 h0) := by
  refine oCon.of (plainFor_of_name pn_2) ?_
  intro p e s m below meth c T X hx hby hml hown hnm hret hlk hZ e0
  have hml : c.maxLocals = 6 := hml
  have K : oKp h0 h0 [] [] := oKp.nil _ _
  refine oWk.cast (g' := (mkF m 0 #[rv xa, iv 0, iv 3, uu, uu, uu] [])) (by first | rfl | (simp [entryFrame, mkF, argsToLocals, Value.category]; done)) ?_
  refine oWk.st (fun _ kt => zI X hx hby d15_0 rfl rfl kt) ?_
  obtain ⟨o1, g1⟩ : ∃ z, z = h0.size := ⟨_, rfl⟩
  have ne_xa_o1 : xa ≠ o1 := Nat.ne_of_lt (Nat.lt_of_lt_of_le V_xa.lt (Nat.le_of_eq g1.symm))
  have ge_o1 : h0.size ≤ o1 := Nat.le_trans K.le (Nat.le_of_eq g1.symm)
  obtain ⟨T, h, k1, X, e0, E1, A1, st⟩ := newP X hx hZ (oW hw 28 rfl) e0 (g := (mkF m 1 #[rv xa, iv 0, iv 3, uu, uu, uu] [(.int 3)])) rfl (hb hby d15_1) rfl (by decide) (cap := 3) (by decide) (by decide) (by decide) (by decide)
  rw [← g1] at A1 st
  have K := K.ext E1
  have V_o1 : Arv Z h o1 k1 .byte (3 : Int32) [(.int (0 : Int32)), (.int (0 : Int32)), (.int (0 : Int32))] (.int (0 : Int32)) := (Arv.new A1 (by decide)).pad (pad_rep [] (.int (0 : Int32)) 3)
  refine oWk.to (mkF m 9 #[rv xa, iv 0, iv 3, rv o1, uu, uu] [(.int 3), (.int 0), (.ref o1), (.int 0), (.ref xa)]) (fun _ kt => st _ (zTn X hx hby d15_3 rfl rfl rfl (l' := #[rv xa, iv 0, iv 3, rv o1, uu, uu]) rfl (zA X hx hby d15_4 rfl rfl rfl (zI X hx hby d15_5 rfl rfl (zA X hx hby d15_6 rfl rfl rfl (zK X hx hby d15_7 rfl (zI X hx hby d15_8 rfl rfl kt))))))) ?_
  have V_xa := (V_xa.ext E1)
  have Oh := K.old O0 all0
  obtain ⟨_, T, h, Lc3, X, e0, hQ, st⟩ := (cs16 hw).run X hx hZ hown e0 (A := [(.ref xa), (.int (0 : Int32)), (.ref o1), (.int (0 : Int32)), (.int (3 : Int32))]) rfl (rC5_3 l Z a0 hw [] xa o1 xk k1 xc0 xc1 xc2 h Oh (Nat.le_trans O0.1 ge_o1) ne_xa_o1 V_xa V_o1 hc0_ hc1_ hc2_) (W := 0) (by decide) hml (Ls := #[rv xa, iv 0, iv 3, rv o1, uu, uu]) rfl (rest := []) rfl rfl hby d15_9
  obtain ⟨rfl, K2, V_o1⟩ := hQ
  have K := K.call K2 (allS (Or.inr ge_o1) all0)
  refine oWk.to (mkF m 58 #[rv xa, iv 0, iv 3, rv o1, iv 3, uu] [(.ref o1)]) (fun _ kt => st _ (zS X hx hby d15_12 rfl rfl (l' := #[rv xa, iv 0, iv 3, rv o1, iv 3, uu]) rfl (zJ X hx hby d15_14 rfl rfl (zI X hx hby d15_16 rfl rfl (zY X hx hby d15_17 rfl rfl (teq (by decide)).1 (pc' := 57) rfl (zA X hx hby d15_57 rfl rfl rfl kt)))))) ?_
  exact oRetA X hx hlk hret rfl rfl (hb hby d15_58) (by rw [e0]; exact ⟨o1, k1, rfl, K, ge_o1, V_o1⟩) (by decide) (by decide)
theorem rCo_3 (l : Launch) (Z : State) (a0 : Array Value) (hw : oHW a0 Z) (ws : List Jvm.Cond) (xb : Addr) (xk : ClassId) (xy0 xy1 xy2 : Int32) (h0 : Heap) (O0 : Ext Z.heap h0) (V_xb : Arv Z h0 xb xk .byte (3 : Int32) [(.int xy0), (.int xy1), (.int xy2)] (.int (0 : Int32))) :
    oCon l Z yy21 jdk_52_method_15_code 2 (some .byte) ws ({ frames := 0, cells := 0, slots := 0, locals := 0 } : Room) #[(.ref xb), (.int (3 : Int32))] h0 (oPq (some (.int (0 : Int32))) h0) := by
  refine oCon.of (plainFor_of_name pn_2) ?_
  intro p e s m below meth c T X hx hby hml hown hnm hret hlk hZ e0
  have hml : c.maxLocals = 2 := hml
  have K : oKp h0 h0 [] [] := oKp.nil _ _
  refine oWk.cast (g' := (mkF m 0 #[rv xb, iv 3] [])) (by first | rfl | (simp [entryFrame, mkF, argsToLocals, Value.category]; done)) ?_
  refine oWk.to (mkF m 8 #[rv xb, iv 3] [(.int 0)]) (fun _ kt => zI X hx hby d17_0 rfl rfl (zA X hx hby d17_1 rfl rfl rfl (oAl X hx hZ e0 V_xb hby d17_2 rfl rfl (XS.isub X.here hx rfl (hb hby d17_3) rfl (zL X hx hby d17_4 rfl (XS.iushr X.here hx rfl (hb hby d17_6) rfl (XS.i2b X.here hx rfl (hb hby d17_7) rfl kt))))))) ?_
  exact oRetN X hx hlk hret (Or.inl rfl) rfl (hb hby d17_8) (by rw [e0]; exact ⟨rfl, rfl, K⟩) (by decide) (by decide)
def Q_rI4_3 (Z : State) (xs xa : Addr) (xk : ClassId) (xz : Int32) (xu xv : Value) (xc0 xc1 xc2 : Int32) (h0 : Heap) (v : Option Value) (h : Heap) (L : List Loc) : Prop := ∃ (nb : Addr) (nk : ClassId), v = none ∧ oKp h0 h [xs] L ∧ (Exa Z h xs Y0) ∧ (Fld Z h xs Y0 "coder" "B" (.int (0 : Int32))) ∧ (Fld Z h xs Y0 "value" "[B" (.ref nb)) ∧ (h0.size ≤ nb) ∧ (Arv Z h nb nk .byte (3 : Int32) [(ib xc0), (ib xc1), (ib xc2)] (.int (0 : Int32)))
theorem rI4_3 (l : Launch) (Z : State) (a0 : Array Value) (hw : oHW a0 Z) (ws : List Jvm.Cond) (xs xa : Addr) (xk : ClassId) (xz : Int32) (xu xv : Value) (xc0 xc1 xc2 : Int32) (h0 : Heap) (O0 : Ext Z.heap h0) (S_Z : Sta Z Z.heap Y0 Y2 "Z" (.int xz)) (hz : ¬ xz = (0 : Int32)) (og_xs : Z.heap.size ≤ xs) (E_xs : Exa Z h0 xs Y0) (F_value_xs : Fld Z h0 xs Y0 "value" "[B" xu) (F_coder_xs : Fld Z h0 xs Y0 "coder" "B" xv) (V_xa : Arv Z h0 xa xk .char (3 : Int32) [(.int xc0), (.int xc1), (.int xc2)] (.int (0 : Int32))) (hc0_ : ¬ (255 : Int32) < xc0) (hc1_ : ¬ (255 : Int32) < xc1) (hc2_ : ¬ (255 : Int32) < xc2) :
    oCon l Z yy17 jdk_42_method_149_code 6 none ws ({ frames := 2, cells := 1, slots := 3, locals := 35 } : Room) #[(.ref xs), (.ref xa), (.int (0 : Int32)), (.int (3 : Int32)), .null] h0 (Q_rI4_3 Z xs xa xk xz xu xv xc0 xc1 xc2 h0) := by
  refine oCon.of (plainFor_of_name pn_0) ?_
  intro p e s m below meth c T X hx hby hml hown hnm hret hlk hZ e0
  have hml : c.maxLocals = 6 := hml
  have K : oKp h0 h0 [xs] [] := oKp.nil _ _
  refine oWk.cast (g' := (mkF m 0 #[rv xs, rv xa, iv 0, iv 3, .val .null, uu] [])) (by first | rfl | (simp [entryFrame, mkF, argsToLocals, Value.category]; done)) ?_
  refine oWk.st (fun _ kt => zA X hx hby d5_0 rfl rfl rfl kt) ?_
  obtain ⟨T, X, e0, st⟩ := initO X hx hZ hown (oW hw 24 rfl) (oW hw 25 rfl) (oW hw 26 rfl) e0 (g := (mkF m 1 #[rv xs, rv xa, iv 0, iv 3, .val .null, uu] [(.ref xs)])) rfl (by rw [hml]; rfl) rfl (hb hby d5_1) (by decide) (W := 0) (Nat.le_of_eq rfl) (by decide)
  refine oWk.st (fun _ kt => st _ (zI X hx hby d5_4 rfl rfl (zF X hx hby d5_5 rfl rfl ((if0 _ _).trans (feq (by decide)).2) (pc' := 27) rfl kt))) ?_
  have Oh := K.old O0 (allS og_xs all0)
  obtain ⟨T, X, e0, st⟩ := getS2 X hx hZ hown (host := "") (Or.inl (oW hw 49 rfl)) Via.refl e0 (S_Z.ext Oh) (g := (mkF m 27 #[rv xs, rv xa, iv 0, iv 3, .val .null, uu] [])) rfl (hb hby d5_27)
  refine oWk.st (fun _ kt => st _ (zH X hx hby d5_30 rfl rfl ((if0 _ _).trans (feq hz).1) (zA X hx hby d5_33 rfl rfl rfl (zI X hx hby d5_34 rfl rfl (zI X hx hby d5_35 rfl rfl kt))))) ?_
  have lt_xs := E_xs.lt
  have lt_xa := V_xa.lt
  obtain ⟨_, T, h, Lc2, X, e0, hQ, st⟩ := (cs17 hw).run X hx hZ hown e0 (A := [(.ref xa), (.int (0 : Int32)), (.int (3 : Int32))]) rfl (rC3_3 l Z a0 hw [] xa xk xc0 xc1 xc2 h0 Oh V_xa hc0_ hc1_ hc2_) (W := 0) (by decide) hml (Ls := #[rv xs, rv xa, iv 0, iv 3, .val .null, uu]) rfl (rest := []) rfl rfl hby d5_36
  obtain ⟨nb1, nk1, rfl, K1, gn_nb1, V_nb1⟩ := hQ
  have ge_nb1 := Nat.le_trans K.le gn_nb1
  have ne_xs_nb1 : xs ≠ nb1 := Nat.ne_of_lt (Nat.lt_of_lt_of_le lt_xs gn_nb1)
  have ne_xa_nb1 : xa ≠ nb1 := Nat.ne_of_lt (Nat.lt_of_lt_of_le lt_xa gn_nb1)
  have K := K.call K1 all0
  refine oWk.st (fun _ kt => st _ (zT X hx hby d5_39 rfl rfl rfl (l' := #[rv xs, rv xa, iv 0, iv 3, .val .null, rv nb1]) rfl (zA X hx hby d5_41 rfl rfl rfl (zB X hx hby d5_42 rfl rfl rfl (zI X hx hby d5_44 rfl rfl kt))))) ?_
  have Oh := K.old O0 (allS og_xs all0)
  obtain ⟨T, L4, X, e0, K, st⟩ := (cs18 hw).pure X hx hZ hown e0 K (A := [(.ref nb1), (.int (3 : Int32))]) rfl (rCo_3 l Z a0 hw [] nb1 nk1 (xc0.toInt8.toInt32) (xc1.toInt8.toInt32) (xc2.toInt8.toInt32) h Oh V_nb1) (W := 1) (by decide) hml (Ls := #[rv xs, rv xa, iv 0, iv 3, .val .null, rv nb1]) rfl (rest := [(.ref xs)]) rfl rfl hby d5_45
  refine oWk.st (fun _ kt => st _ kt) ?_
  have E_xs := (E_xs.keep K1.1)
  have F_coder_xs := (F_coder_xs.keep K1.1 nin0)
  obtain ⟨T, h, X, e0, W5, st⟩ := putFN X hx hZ hown (oW hw 34 rfl) Via.refl e0 F_coder_xs E_xs (Or.inr ⟨(oW hw 30 rfl), rfl, hnm⟩) (oW hw 15 rfl) (ty := .byte) (v' := .int (0 : Int32)) (by decide) rfl (by decide) (g := (mkF m 48 #[rv xs, rv xa, iv 0, iv 3, .val .null, rv nb1] [(.int 0), (.ref xs)])) rfl rfl (hb hby d5_48)
  have K := K.wr W5 (Or.inl (List.mem_of_getElem? (i := 0) rfl))
  have F_coder_xs := F_coder_xs.same W5
  refine oWk.st (fun _ kt => st _ (zA X hx hby d5_51 rfl rfl rfl (zB X hx hby d5_52 rfl rfl rfl kt))) ?_
  have E_xs := (E_xs.wr W5)
  have F_value_xs := ((F_value_xs.keep K1.1 nin0).other W5 (Or.inr (slot_ne (Or.inr (oW hw 29 rfl)) (Or.inr (oW hw 30 rfl)) (by decide) (t := (.array .byte)) (t' := .byte) (by decide) (by decide))))
  obtain ⟨T, h, X, e0, W6, st⟩ := putF X hx hZ hown (host := "") (Or.inl (oW hw 33 rfl)) Via.refl e0 F_value_xs E_xs (Or.inr ⟨(oW hw 29 rfl), rfl, hnm⟩) (oW hw 15 rfl) (ty := (.array .byte)) (by decide) rfl rfl (g := (mkF m 54 #[rv xs, rv xa, iv 0, iv 3, .val .null, rv nb1] [(.ref nb1), (.ref xs)])) rfl rfl (hb hby d5_54)
  have K := K.wr W6 (Or.inl (List.mem_of_getElem? (i := 0) rfl))
  have F_value_xs := F_value_xs.same W6
  refine oWk.to (mkF m 57 #[rv xs, rv xa, iv 0, iv 3, .val .null, rv nb1] []) (fun _ kt => st _ kt) ?_
  have E_xs := (E_xs.wr W6)
  have F_coder_xs := (F_coder_xs.other W6 (Or.inr (slot_ne (Or.inr (oW hw 30 rfl)) (Or.inr (oW hw 29 rfl)) (by decide) (t := .byte) (t' := (.array .byte)) (by decide) (by decide))))
  have V_nb1 := ((V_nb1.other W5 (Ne.symm ne_xs_nb1)).other W6 (Ne.symm ne_xs_nb1))
  exact oRetV X hx hlk hret (hb hby d5_57) (by rw [e0]; exact ⟨nb1, nk1, rfl, K, E_xs, F_coder_xs, F_value_xs, ge_nb1, V_nb1⟩) (by decide) (by decide)
def Q_rI1_3 (Z : State) (xs xa : Addr) (xk : ClassId) (xz : Int32) (xu xv : Value) (xc0 xc1 xc2 : Int32) (h0 : Heap) (v : Option Value) (h : Heap) (L : List Loc) : Prop := ∃ (nb : Addr) (nk : ClassId), v = none ∧ oKp h0 h [xs] L ∧ (Exa Z h xs Y0) ∧ (Fld Z h xs Y0 "coder" "B" (.int (0 : Int32))) ∧ (Fld Z h xs Y0 "value" "[B" (.ref nb)) ∧ (h0.size ≤ nb) ∧ (Arv Z h nb nk .byte (3 : Int32) [(ib xc0), (ib xc1), (ib xc2)] (.int (0 : Int32)))
theorem rI1_3 (l : Launch) (Z : State) (a0 : Array Value) (hw : oHW a0 Z) (ws : List Jvm.Cond) (xs xa : Addr) (xk : ClassId) (xz : Int32) (xu xv : Value) (xc0 xc1 xc2 : Int32) (h0 : Heap) (O0 : Ext Z.heap h0) (S_Z : Sta Z Z.heap Y0 Y2 "Z" (.int xz)) (hz : ¬ xz = (0 : Int32)) (og_xs : Z.heap.size ≤ xs) (E_xs : Exa Z h0 xs Y0) (F_value_xs : Fld Z h0 xs Y0 "value" "[B" xu) (F_coder_xs : Fld Z h0 xs Y0 "coder" "B" xv) (V_xa : Arv Z h0 xa xk .char (3 : Int32) [(.int xc0), (.int xc1), (.int xc2)] (.int (0 : Int32))) (hc0_ : ¬ (255 : Int32) < xc0) (hc1_ : ¬ (255 : Int32) < xc1) (hc2_ : ¬ (255 : Int32) < xc2) :
    oCon l Z yy18 jdk_42_method_3_code 2 none ws ({ frames := 3, cells := 1, slots := 3, locals := 52 } : Room) #[(.ref xs), (.ref xa)] h0 (Q_rI1_3 Z xs xa xk xz xu xv xc0 xc1 xc2 h0) := by
  refine oCon.of (plainFor_of_name pn_0) ?_
  intro p e s m below meth c T X hx hby hml hown hnm hret hlk hZ e0
  have hml : c.maxLocals = 2 := hml
  have K : oKp h0 h0 [xs] [] := oKp.nil _ _
  refine oWk.cast (g' := (mkF m 0 #[rv xs, rv xa] [])) (by first | rfl | (simp [entryFrame, mkF, argsToLocals, Value.category]; done)) ?_
  refine oWk.st (fun _ kt => zA X hx hby d4_0 rfl rfl rfl (zA X hx hby d4_1 rfl rfl rfl (zK X hx hby d4_2 rfl (zA X hx hby d4_3 rfl rfl rfl (oAl X hx hZ e0 V_xa hby d4_4 rfl rfl (XS.aconstNull X.here hx rfl (hb hby d4_5) kt)))))) ?_
  have lt_xs := E_xs.lt
  have lt_xa := V_xa.lt
  have Oh := K.old O0 (allS og_xs all0)
  obtain ⟨_, T, h, Lc3, X, e0, hQ, st⟩ := (cs19 hw).run X hx hZ hown e0 (A := [(.ref xs), (.ref xa), (.int (0 : Int32)), (.int (3 : Int32)), .null]) ⟨rfl, _, _, rfl⟩ (rI4_3 l Z a0 hw [] xs xa xk xz xu xv xc0 xc1 xc2 h0 Oh S_Z hz og_xs E_xs F_value_xs F_coder_xs V_xa hc0_ hc1_ hc2_) (W := 0) (by decide) hml (Ls := #[rv xs, rv xa]) rfl (rest := []) rfl rfl hby d4_6
  obtain ⟨nb2, nk2, rfl, K2, E_xs, F_coder_xs, F_value_xs, gn_nb2, V_nb2⟩ := hQ
  have ge_nb2 := Nat.le_trans K.le gn_nb2
  have ne_xs_nb2 : xs ≠ nb2 := Nat.ne_of_lt (Nat.lt_of_lt_of_le lt_xs gn_nb2)
  have ne_xa_nb2 : xa ≠ nb2 := Nat.ne_of_lt (Nat.lt_of_lt_of_le lt_xa gn_nb2)
  have K := K.call K2 (allS (Or.inl (List.mem_of_getElem? (i := 0) rfl)) all0)
  refine oWk.to (mkF m 9 #[rv xs, rv xa] []) (fun _ kt => st _ kt) ?_
  exact oRetV X hx hlk hret (hb hby d4_9) (by rw [e0]; exact ⟨nb2, nk2, rfl, K, E_xs, F_coder_xs, F_value_xs, ge_nb2, V_nb2⟩) (by decide) (by decide)
def Q_rC5_4 (Z : State) (xa xd : Addr) (xk xl : ClassId) (xc0 xc1 xc2 xc3 : Int32) (h0 : Heap) (v : Option Value) (h : Heap) (L : List Loc) : Prop := v = some (.int (4 : Int32)) ∧ oKp h0 h [xd] L ∧ (Arv Z h xd xl .byte (4 : Int32) [(ib xc0), (ib xc1), (ib xc2), (ib xc3)] (.int (0 : Int32)))
theorem rC5_4 (l : Launch) (Z : State) (a0 : Array Value) (hw : oHW a0 Z) (ws : List Jvm.Cond) (xa xd : Addr) (xk xl : ClassId) (xc0 xc1 xc2 xc3 : Int32) (h0 : Heap) (O0 : Ext Z.heap h0) (og_xd : Z.heap.size ≤ xd) (ne_xa_xd : xa ≠ xd) (V_xa : Arv Z h0 xa xk .char (4 : Int32) [(.int xc0), (.int xc1), (.int xc2), (.int xc3)] (.int (0 : Int32))) (V_xd : Arv Z h0 xd xl .byte (4 : Int32) [(.int (0 : Int32)), (.int (0 : Int32)), (.int (0 : Int32)), (.int (0 : Int32))] (.int (0 : Int32))) (hc0_ : ¬ (255 : Int32) < xc0) (hc1_ : ¬ (255 : Int32) < xc1) (hc2_ : ¬ (255 : Int32) < xc2) (hc3_ : ¬ (255 : Int32) < xc3) :
    oCon l Z yy19 jdk_52_method_21_code 7 (some .int) ws ({ frames := 0, cells := 0, slots := 0, locals := 0 } : Room) #[(.ref xa), (.int (0 : Int32)), (.ref xd), (.int (0 : Int32)), (.int (4 : Int32))] h0 (Q_rC5_4 Z xa xd xk xl xc0 xc1 xc2 xc3 h0) := by
  refine oCon.of (plainFor_of_name pn_2) ?_
  intro p e s m below meth c T X hx hby hml hown hnm hret hlk hZ e0
  have hml : c.maxLocals = 7 := hml
  have K : oKp h0 h0 [xd] [] := oKp.nil _ _
  refine oWk.cast (g' := (mkF m 0 #[rv xa, iv 0, rv xd, iv 0, iv 4, uu, uu] [])) (by first | rfl | (simp [entryFrame, mkF, argsToLocals, Value.category]; done)) ?_
  refine oWk.to (mkF m 12 #[rv xa, iv 0, rv xd, iv 0, iv 4, iv 0, uu] [(.int 0), (.ref xa)]) (fun _ kt => zK X hx hby d16_0 rfl (zS X hx hby d16_1 rfl rfl (l' := #[rv xa, iv 0, rv xd, iv 0, iv 4, iv 0, uu]) rfl (zJ X hx hby d16_3 rfl rfl (zJ X hx hby d16_5 rfl rfl (zN X hx hby d16_7 rfl rfl (tlt (by decide)).2.1 (zA X hx hby d16_10 rfl rfl rfl (zI X hx hby d16_11 rfl rfl kt))))))) ?_
  refine oWk.to (mkF m 20 #[rv xa, iv 0, rv xd, iv 0, iv 4, iv 0, iv xc0] [(.int 255), (.int xc0)]) (fun _ kt => oLdC X hx hZ e0 V_xa (0 : Int32) (.int xc0) ⟨by decide, by decide⟩ rfl hby d16_12 rfl rfl (zS X hx hby d16_13 rfl rfl (l' := #[rv xa, iv 0, rv xd, iv 0, iv 4, iv 0, iv xc0]) rfl (zJ X hx hby d16_15 rfl rfl (zM X hx hby d16_17 rfl kt)))) ?_
  refine oWk.to (mkF m 31 #[rv xa, iv 0, rv xd, iv 0, iv 4, iv 0, iv xc0] [(ib xc0), (.int 0), (.ref xd)]) (fun _ kt => zY X hx hby d16_20 rfl rfl (flt hc0_).2.2.2 (pc' := 26) rfl (zA X hx hby d16_26 rfl rfl rfl (zI X hx hby d16_27 rfl rfl (zJ X hx hby d16_28 rfl rfl (XS.i2b X.here hx rfl (hb hby d16_30) rfl kt))))) ?_
  obtain ⟨cl2, Ar2, q2, Sz2, Nn2, Hs2, Ft2⟩ := id V_xd
  have hin2 : ¬ ((0 : Int32) < 0 ∨ cl2.slots.size ≤ ((0 : Int32)).toNatClampNeg) := inb_of Sz2 ⟨by decide, by decide⟩
  obtain ⟨T, h, X, e0, W2, st⟩ := stB X hx hZ e0 Ar2 (j := (0 : Int32)) hin2 (g := (mkF m 31 #[rv xa, iv 0, rv xd, iv 0, iv 4, iv 0, iv xc0] [(ib xc0), (.int 0), (.ref xd)])) rfl rfl (hb hby d16_31)
  have K := K.wr W2 (Or.inl (List.mem_of_getElem? (i := 0) rfl))
  have V_xd := Arv.set Ar2 q2 Sz2 Nn2 Hs2 Ft2 (fits_nar_byte _) W2 0 rfl (Nat.le_of_ble_eq_true rfl)
  rw [oB8 xc0] at V_xd
  replace V_xd : Arv Z h xd xl .byte (4 : Int32) [(ib xc0), (.int (0 : Int32)), (.int (0 : Int32)), (.int (0 : Int32))] (.int (0 : Int32)) := V_xd
  refine oWk.to (mkF m 7 #[rv xa, iv 1, rv xd, iv 1, iv 4, iv 1, iv xc0] [(.int 4), (.int 1)]) (fun _ kt => st _ (zC X hx hby d16_32 rfl rfl (l' := #[rv xa, iv ((0 : Int32) + (1 : Int32)), rv xd, iv 0, iv 4, iv 0, iv xc0]) rfl (zC X hx hby d16_35 rfl rfl (l' := #[rv xa, iv 1, rv xd, iv ((0 : Int32) + (1 : Int32)), iv 4, iv 0, iv xc0]) rfl (zC X hx hby d16_38 rfl rfl (l' := #[rv xa, iv 1, rv xd, iv 1, iv 4, iv ((0 : Int32) + (1 : Int32)), iv xc0]) rfl (zG X hx hby d16_41 rfl (pc' := 3) rfl (zJ X hx hby d16_3 rfl rfl (zJ X hx hby d16_5 rfl rfl kt))))))) ?_
  refine oWk.st (fun _ kt => zN X hx hby d16_7 rfl rfl (tlt (by decide)).2.1 (zA X hx hby d16_10 rfl rfl rfl (zI X hx hby d16_11 rfl rfl kt))) ?_
  have V_xa := (V_xa.other W2 ne_xa_xd)
  refine oWk.to (mkF m 20 #[rv xa, iv 1, rv xd, iv 1, iv 4, iv 1, iv xc1] [(.int 255), (.int xc1)]) (fun _ kt => oLdC X hx hZ e0 V_xa (1 : Int32) (.int xc1) ⟨by decide, by decide⟩ rfl hby d16_12 rfl rfl (zS X hx hby d16_13 rfl rfl (l' := #[rv xa, iv 1, rv xd, iv 1, iv 4, iv 1, iv xc1]) rfl (zJ X hx hby d16_15 rfl rfl (zM X hx hby d16_17 rfl kt)))) ?_
  refine oWk.to (mkF m 31 #[rv xa, iv 1, rv xd, iv 1, iv 4, iv 1, iv xc1] [(ib xc1), (.int 1), (.ref xd)]) (fun _ kt => zY X hx hby d16_20 rfl rfl (flt hc1_).2.2.2 (pc' := 26) rfl (zA X hx hby d16_26 rfl rfl rfl (zI X hx hby d16_27 rfl rfl (zJ X hx hby d16_28 rfl rfl (XS.i2b X.here hx rfl (hb hby d16_30) rfl kt))))) ?_
  obtain ⟨cl4, Ar4, q4, Sz4, Nn4, Hs4, Ft4⟩ := id V_xd
  have hin4 : ¬ ((1 : Int32) < 0 ∨ cl4.slots.size ≤ ((1 : Int32)).toNatClampNeg) := inb_of Sz4 ⟨by decide, by decide⟩
  obtain ⟨T, h, X, e0, W4, st⟩ := stB X hx hZ e0 Ar4 (j := (1 : Int32)) hin4 (g := (mkF m 31 #[rv xa, iv 1, rv xd, iv 1, iv 4, iv 1, iv xc1] [(ib xc1), (.int 1), (.ref xd)])) rfl rfl (hb hby d16_31)
  have K := K.wr W4 (Or.inl (List.mem_of_getElem? (i := 0) rfl))
  have V_xd := Arv.set Ar4 q4 Sz4 Nn4 Hs4 Ft4 (fits_nar_byte _) W4 1 rfl (Nat.le_of_ble_eq_true rfl)
  rw [oB8 xc1] at V_xd
  replace V_xd : Arv Z h xd xl .byte (4 : Int32) [(ib xc0), (ib xc1), (.int (0 : Int32)), (.int (0 : Int32))] (.int (0 : Int32)) := V_xd
  refine oWk.to (mkF m 7 #[rv xa, iv 2, rv xd, iv 2, iv 4, iv 2, iv xc1] [(.int 4), (.int 2)]) (fun _ kt => st _ (zC X hx hby d16_32 rfl rfl (l' := #[rv xa, iv ((1 : Int32) + (1 : Int32)), rv xd, iv 1, iv 4, iv 1, iv xc1]) rfl (zC X hx hby d16_35 rfl rfl (l' := #[rv xa, iv 2, rv xd, iv ((1 : Int32) + (1 : Int32)), iv 4, iv 1, iv xc1]) rfl (zC X hx hby d16_38 rfl rfl (l' := #[rv xa, iv 2, rv xd, iv 2, iv 4, iv ((1 : Int32) + (1 : Int32)), iv xc1]) rfl (zG X hx hby d16_41 rfl (pc' := 3) rfl (zJ X hx hby d16_3 rfl rfl (zJ X hx hby d16_5 rfl rfl kt))))))) ?_
  refine oWk.st (fun _ kt => zN X hx hby d16_7 rfl rfl (tlt (by decide)).2.1 (zA X hx hby d16_10 rfl rfl rfl (zI X hx hby d16_11 rfl rfl kt))) ?_
  have V_xa := (V_xa.other W4 ne_xa_xd)
  refine oWk.to (mkF m 20 #[rv xa, iv 2, rv xd, iv 2, iv 4, iv 2, iv xc2] [(.int 255), (.int xc2)]) (fun _ kt => oLdC X hx hZ e0 V_xa (2 : Int32) (.int xc2) ⟨by decide, by decide⟩ rfl hby d16_12 rfl rfl (zS X hx hby d16_13 rfl rfl (l' := #[rv xa, iv 2, rv xd, iv 2, iv 4, iv 2, iv xc2]) rfl (zJ X hx hby d16_15 rfl rfl (zM X hx hby d16_17 rfl kt)))) ?_
  refine oWk.to (mkF m 31 #[rv xa, iv 2, rv xd, iv 2, iv 4, iv 2, iv xc2] [(ib xc2), (.int 2), (.ref xd)]) (fun _ kt => zY X hx hby d16_20 rfl rfl (flt hc2_).2.2.2 (pc' := 26) rfl (zA X hx hby d16_26 rfl rfl rfl (zI X hx hby d16_27 rfl rfl (zJ X hx hby d16_28 rfl rfl (XS.i2b X.here hx rfl (hb hby d16_30) rfl kt))))) ?_
  obtain ⟨cl6, Ar6, q6, Sz6, Nn6, Hs6, Ft6⟩ := id V_xd
  have hin6 : ¬ ((2 : Int32) < 0 ∨ cl6.slots.size ≤ ((2 : Int32)).toNatClampNeg) := inb_of Sz6 ⟨by decide, by decide⟩
  obtain ⟨T, h, X, e0, W6, st⟩ := stB X hx hZ e0 Ar6 (j := (2 : Int32)) hin6 (g := (mkF m 31 #[rv xa, iv 2, rv xd, iv 2, iv 4, iv 2, iv xc2] [(ib xc2), (.int 2), (.ref xd)])) rfl rfl (hb hby d16_31)
  have K := K.wr W6 (Or.inl (List.mem_of_getElem? (i := 0) rfl))
  have V_xd := Arv.set Ar6 q6 Sz6 Nn6 Hs6 Ft6 (fits_nar_byte _) W6 2 rfl (Nat.le_of_ble_eq_true rfl)
  rw [oB8 xc2] at V_xd
  replace V_xd : Arv Z h xd xl .byte (4 : Int32) [(ib xc0), (ib xc1), (ib xc2), (.int (0 : Int32))] (.int (0 : Int32)) := V_xd
  refine oWk.to (mkF m 7 #[rv xa, iv 3, rv xd, iv 3, iv 4, iv 3, iv xc2] [(.int 4), (.int 3)]) (fun _ kt => st _ (zC X hx hby d16_32 rfl rfl (l' := #[rv xa, iv ((2 : Int32) + (1 : Int32)), rv xd, iv 2, iv 4, iv 2, iv xc2]) rfl (zC X hx hby d16_35 rfl rfl (l' := #[rv xa, iv 3, rv xd, iv ((2 : Int32) + (1 : Int32)), iv 4, iv 2, iv xc2]) rfl (zC X hx hby d16_38 rfl rfl (l' := #[rv xa, iv 3, rv xd, iv 3, iv 4, iv ((2 : Int32) + (1 : Int32)), iv xc2]) rfl (zG X hx hby d16_41 rfl (pc' := 3) rfl (zJ X hx hby d16_3 rfl rfl (zJ X hx hby d16_5 rfl rfl kt))))))) ?_
  refine oWk.st (fun _ kt => zN X hx hby d16_7 rfl rfl (tlt (by decide)).2.1 (zA X hx hby d16_10 rfl rfl rfl (zI X hx hby d16_11 rfl rfl kt))) ?_
  have V_xa := (V_xa.other W6 ne_xa_xd)
  refine oWk.to (mkF m 20 #[rv xa, iv 3, rv xd, iv 3, iv 4, iv 3, iv xc3] [(.int 255), (.int xc3)]) (fun _ kt => oLdC X hx hZ e0 V_xa (3 : Int32) (.int xc3) ⟨by decide, by decide⟩ rfl hby d16_12 rfl rfl (zS X hx hby d16_13 rfl rfl (l' := #[rv xa, iv 3, rv xd, iv 3, iv 4, iv 3, iv xc3]) rfl (zJ X hx hby d16_15 rfl rfl (zM X hx hby d16_17 rfl kt)))) ?_
  refine oWk.to (mkF m 31 #[rv xa, iv 3, rv xd, iv 3, iv 4, iv 3, iv xc3] [(ib xc3), (.int 3), (.ref xd)]) (fun _ kt => zY X hx hby d16_20 rfl rfl (flt hc3_).2.2.2 (pc' := 26) rfl (zA X hx hby d16_26 rfl rfl rfl (zI X hx hby d16_27 rfl rfl (zJ X hx hby d16_28 rfl rfl (XS.i2b X.here hx rfl (hb hby d16_30) rfl kt))))) ?_
  obtain ⟨cl8, Ar8, q8, Sz8, Nn8, Hs8, Ft8⟩ := id V_xd
  have hin8 : ¬ ((3 : Int32) < 0 ∨ cl8.slots.size ≤ ((3 : Int32)).toNatClampNeg) := inb_of Sz8 ⟨by decide, by decide⟩
  obtain ⟨T, h, X, e0, W8, st⟩ := stB X hx hZ e0 Ar8 (j := (3 : Int32)) hin8 (g := (mkF m 31 #[rv xa, iv 3, rv xd, iv 3, iv 4, iv 3, iv xc3] [(ib xc3), (.int 3), (.ref xd)])) rfl rfl (hb hby d16_31)
  have K := K.wr W8 (Or.inl (List.mem_of_getElem? (i := 0) rfl))
  have V_xd := Arv.set Ar8 q8 Sz8 Nn8 Hs8 Ft8 (fits_nar_byte _) W8 3 rfl (Nat.le_of_ble_eq_true rfl)
  rw [oB8 xc3] at V_xd
  replace V_xd : Arv Z h xd xl .byte (4 : Int32) [(ib xc0), (ib xc1), (ib xc2), (ib xc3)] (.int (0 : Int32)) := V_xd
  refine oWk.to (mkF m 7 #[rv xa, iv 4, rv xd, iv 4, iv 4, iv 4, iv xc3] [(.int 4), (.int 4)]) (fun _ kt => st _ (zC X hx hby d16_32 rfl rfl (l' := #[rv xa, iv ((3 : Int32) + (1 : Int32)), rv xd, iv 3, iv 4, iv 3, iv xc3]) rfl (zC X hx hby d16_35 rfl rfl (l' := #[rv xa, iv 4, rv xd, iv ((3 : Int32) + (1 : Int32)), iv 4, iv 3, iv xc3]) rfl (zC X hx hby d16_38 rfl rfl (l' := #[rv xa, iv 4, rv xd, iv 4, iv 4, iv ((3 : Int32) + (1 : Int32)), iv xc3]) rfl (zG X hx hby d16_41 rfl (pc' := 3) rfl (zJ X hx hby d16_3 rfl rfl (zJ X hx hby d16_5 rfl rfl kt))))))) ?_
  refine oWk.to (mkF m 46 #[rv xa, iv 4, rv xd, iv 4, iv 4, iv 4, iv xc3] [(.int 4)]) (fun _ kt => zY X hx hby d16_7 rfl rfl (flt (by decide)).2.1 (pc' := 44) rfl (zJ X hx hby d16_44 rfl rfl kt)) ?_
  exact oRetI X hx hlk hret (hb hby d16_46) (by rw [e0]; exact ⟨rfl, K, V_xd⟩) (by decide) (by decide)
def Q_rC3_4 (Z : State) (xa : Addr) (xk : ClassId) (xc0 xc1 xc2 xc3 : Int32) (h0 : Heap) (v : Option Value) (h : Heap) (L : List Loc) : Prop := ∃ (nb : Addr) (nk : ClassId), v = some (.ref nb) ∧ oKp h0 h [] L ∧ (h0.size ≤ nb) ∧ (Arv Z h nb nk .byte (4 : Int32) [(ib xc0), (ib xc1), (ib xc2), (ib xc3)] (.int (0 : Int32)))
theorem rC3_4 (l : Launch) (Z : State) (a0 : Array Value) (hw : oHW a0 Z) (ws : List Jvm.Cond) (xa : Addr) (xk : ClassId) (xc0 xc1 xc2 xc3 : Int32) (h0 : Heap) (O0 : Ext Z.heap h0) (V_xa : Arv Z h0 xa xk .char (4 : Int32) [(.int xc0), (.int xc1), (.int xc2), (.int xc3)] (.int (0 : Int32))) (hc0_ : ¬ (255 : Int32) < xc0) (hc1_ : ¬ (255 : Int32) < xc1) (hc2_ : ¬ (255 : Int32) < xc2) (hc3_ : ¬ (255 : Int32) < xc3) :
    oCon l Z yy20 jdk_52_method_16_code 6 (some (.array .byte)) ws ({ frames := 1, cells := 1, slots := 4, locals := 18 } : Room) #[(.ref xa), (.int (0 : Int32)), (.int (4 : Int32))] h0 (Q_rC3_4 Z xa xk xc0 xc1 xc2 xc3 h0) := by
  refine oCon.of (plainFor_of_name pn_2) ?_
  intro p e s m below meth c T X hx hby hml hown hnm hret hlk hZ e0
  have hml : c.maxLocals = 6 := hml
  have K : oKp h0 h0 [] [] := oKp.nil _ _
  refine oWk.cast (g' := (mkF m 0 #[rv xa, iv 0, iv 4, uu, uu, uu] [])) (by first | rfl | (simp [entryFrame, mkF, argsToLocals, Value.category]; done)) ?_
  refine oWk.st (fun _ kt => zI X hx hby d15_0 rfl rfl kt) ?_
  obtain ⟨o1, g1⟩ : ∃ z, z = h0.size := ⟨_, rfl⟩
  have ne_xa_o1 : xa ≠ o1 := Nat.ne_of_lt (Nat.lt_of_lt_of_le V_xa.lt (Nat.le_of_eq g1.symm))
  have ge_o1 : h0.size ≤ o1 := Nat.le_trans K.le (Nat.le_of_eq g1.symm)
  obtain ⟨T, h, k1, X, e0, E1, A1, st⟩ := newP X hx hZ (oW hw 28 rfl) e0 (g := (mkF m 1 #[rv xa, iv 0, iv 4, uu, uu, uu] [(.int 4)])) rfl (hb hby d15_1) rfl (by decide) (cap := 4) (by decide) (by decide) (by decide) (by decide)
  rw [← g1] at A1 st
  have K := K.ext E1
  have V_o1 : Arv Z h o1 k1 .byte (4 : Int32) [(.int (0 : Int32)), (.int (0 : Int32)), (.int (0 : Int32)), (.int (0 : Int32))] (.int (0 : Int32)) := (Arv.new A1 (by decide)).pad (pad_rep [] (.int (0 : Int32)) 4)
  refine oWk.to (mkF m 9 #[rv xa, iv 0, iv 4, rv o1, uu, uu] [(.int 4), (.int 0), (.ref o1), (.int 0), (.ref xa)]) (fun _ kt => st _ (zTn X hx hby d15_3 rfl rfl rfl (l' := #[rv xa, iv 0, iv 4, rv o1, uu, uu]) rfl (zA X hx hby d15_4 rfl rfl rfl (zI X hx hby d15_5 rfl rfl (zA X hx hby d15_6 rfl rfl rfl (zK X hx hby d15_7 rfl (zI X hx hby d15_8 rfl rfl kt))))))) ?_
  have V_xa := (V_xa.ext E1)
  have Oh := K.old O0 all0
  obtain ⟨_, T, h, Lc3, X, e0, hQ, st⟩ := (cs16 hw).run X hx hZ hown e0 (A := [(.ref xa), (.int (0 : Int32)), (.ref o1), (.int (0 : Int32)), (.int (4 : Int32))]) rfl (rC5_4 l Z a0 hw [] xa o1 xk k1 xc0 xc1 xc2 xc3 h Oh (Nat.le_trans O0.1 ge_o1) ne_xa_o1 V_xa V_o1 hc0_ hc1_ hc2_ hc3_) (W := 0) (by decide) hml (Ls := #[rv xa, iv 0, iv 4, rv o1, uu, uu]) rfl (rest := []) rfl rfl hby d15_9
  obtain ⟨rfl, K2, V_o1⟩ := hQ
  have K := K.call K2 (allS (Or.inr ge_o1) all0)
  refine oWk.to (mkF m 58 #[rv xa, iv 0, iv 4, rv o1, iv 4, uu] [(.ref o1)]) (fun _ kt => st _ (zS X hx hby d15_12 rfl rfl (l' := #[rv xa, iv 0, iv 4, rv o1, iv 4, uu]) rfl (zJ X hx hby d15_14 rfl rfl (zI X hx hby d15_16 rfl rfl (zY X hx hby d15_17 rfl rfl (teq (by decide)).1 (pc' := 57) rfl (zA X hx hby d15_57 rfl rfl rfl kt)))))) ?_
  exact oRetA X hx hlk hret rfl rfl (hb hby d15_58) (by rw [e0]; exact ⟨o1, k1, rfl, K, ge_o1, V_o1⟩) (by decide) (by decide)
theorem rCo_4 (l : Launch) (Z : State) (a0 : Array Value) (hw : oHW a0 Z) (ws : List Jvm.Cond) (xb : Addr) (xk : ClassId) (xy0 xy1 xy2 xy3 : Int32) (h0 : Heap) (O0 : Ext Z.heap h0) (V_xb : Arv Z h0 xb xk .byte (4 : Int32) [(.int xy0), (.int xy1), (.int xy2), (.int xy3)] (.int (0 : Int32))) :
    oCon l Z yy21 jdk_52_method_15_code 2 (some .byte) ws ({ frames := 0, cells := 0, slots := 0, locals := 0 } : Room) #[(.ref xb), (.int (4 : Int32))] h0 (oPq (some (.int (0 : Int32))) h0) := by
  refine oCon.of (plainFor_of_name pn_2) ?_
  intro p e s m below meth c T X hx hby hml hown hnm hret hlk hZ e0
  have hml : c.maxLocals = 2 := hml
  have K : oKp h0 h0 [] [] := oKp.nil _ _
  refine oWk.cast (g' := (mkF m 0 #[rv xb, iv 4] [])) (by first | rfl | (simp [entryFrame, mkF, argsToLocals, Value.category]; done)) ?_
  refine oWk.to (mkF m 8 #[rv xb, iv 4] [(.int 0)]) (fun _ kt => zI X hx hby d17_0 rfl rfl (zA X hx hby d17_1 rfl rfl rfl (oAl X hx hZ e0 V_xb hby d17_2 rfl rfl (XS.isub X.here hx rfl (hb hby d17_3) rfl (zL X hx hby d17_4 rfl (XS.iushr X.here hx rfl (hb hby d17_6) rfl (XS.i2b X.here hx rfl (hb hby d17_7) rfl kt))))))) ?_
  exact oRetN X hx hlk hret (Or.inl rfl) rfl (hb hby d17_8) (by rw [e0]; exact ⟨rfl, rfl, K⟩) (by decide) (by decide)
def Q_rI4_4 (Z : State) (xs xa : Addr) (xk : ClassId) (xz : Int32) (xu xv : Value) (xc0 xc1 xc2 xc3 : Int32) (h0 : Heap) (v : Option Value) (h : Heap) (L : List Loc) : Prop := ∃ (nb : Addr) (nk : ClassId), v = none ∧ oKp h0 h [xs] L ∧ (Exa Z h xs Y0) ∧ (Fld Z h xs Y0 "coder" "B" (.int (0 : Int32))) ∧ (Fld Z h xs Y0 "value" "[B" (.ref nb)) ∧ (h0.size ≤ nb) ∧ (Arv Z h nb nk .byte (4 : Int32) [(ib xc0), (ib xc1), (ib xc2), (ib xc3)] (.int (0 : Int32)))
theorem rI4_4 (l : Launch) (Z : State) (a0 : Array Value) (hw : oHW a0 Z) (ws : List Jvm.Cond) (xs xa : Addr) (xk : ClassId) (xz : Int32) (xu xv : Value) (xc0 xc1 xc2 xc3 : Int32) (h0 : Heap) (O0 : Ext Z.heap h0) (S_Z : Sta Z Z.heap Y0 Y2 "Z" (.int xz)) (hz : ¬ xz = (0 : Int32)) (og_xs : Z.heap.size ≤ xs) (E_xs : Exa Z h0 xs Y0) (F_value_xs : Fld Z h0 xs Y0 "value" "[B" xu) (F_coder_xs : Fld Z h0 xs Y0 "coder" "B" xv) (V_xa : Arv Z h0 xa xk .char (4 : Int32) [(.int xc0), (.int xc1), (.int xc2), (.int xc3)] (.int (0 : Int32))) (hc0_ : ¬ (255 : Int32) < xc0) (hc1_ : ¬ (255 : Int32) < xc1) (hc2_ : ¬ (255 : Int32) < xc2) (hc3_ : ¬ (255 : Int32) < xc3) :
    oCon l Z yy17 jdk_42_method_149_code 6 none ws ({ frames := 2, cells := 1, slots := 4, locals := 35 } : Room) #[(.ref xs), (.ref xa), (.int (0 : Int32)), (.int (4 : Int32)), .null] h0 (Q_rI4_4 Z xs xa xk xz xu xv xc0 xc1 xc2 xc3 h0) := by
  refine oCon.of (plainFor_of_name pn_0) ?_
  intro p e s m below meth c T X hx hby hml hown hnm hret hlk hZ e0
  have hml : c.maxLocals = 6 := hml
  have K : oKp h0 h0 [xs] [] := oKp.nil _ _
  refine oWk.cast (g' := (mkF m 0 #[rv xs, rv xa, iv 0, iv 4, .val .null, uu] [])) (by first | rfl | (simp [entryFrame, mkF, argsToLocals, Value.category]; done)) ?_
  refine oWk.st (fun _ kt => zA X hx hby d5_0 rfl rfl rfl kt) ?_
  obtain ⟨T, X, e0, st⟩ := initO X hx hZ hown (oW hw 24 rfl) (oW hw 25 rfl) (oW hw 26 rfl) e0 (g := (mkF m 1 #[rv xs, rv xa, iv 0, iv 4, .val .null, uu] [(.ref xs)])) rfl (by rw [hml]; rfl) rfl (hb hby d5_1) (by decide) (W := 0) (Nat.le_of_eq rfl) (by decide)
  refine oWk.st (fun _ kt => st _ (zI X hx hby d5_4 rfl rfl (zF X hx hby d5_5 rfl rfl ((if0 _ _).trans (feq (by decide)).2) (pc' := 27) rfl kt))) ?_
  have Oh := K.old O0 (allS og_xs all0)
  obtain ⟨T, X, e0, st⟩ := getS2 X hx hZ hown (host := "") (Or.inl (oW hw 49 rfl)) Via.refl e0 (S_Z.ext Oh) (g := (mkF m 27 #[rv xs, rv xa, iv 0, iv 4, .val .null, uu] [])) rfl (hb hby d5_27)
  refine oWk.st (fun _ kt => st _ (zH X hx hby d5_30 rfl rfl ((if0 _ _).trans (feq hz).1) (zA X hx hby d5_33 rfl rfl rfl (zI X hx hby d5_34 rfl rfl (zI X hx hby d5_35 rfl rfl kt))))) ?_
  have lt_xs := E_xs.lt
  have lt_xa := V_xa.lt
  obtain ⟨_, T, h, Lc2, X, e0, hQ, st⟩ := (cs17 hw).run X hx hZ hown e0 (A := [(.ref xa), (.int (0 : Int32)), (.int (4 : Int32))]) rfl (rC3_4 l Z a0 hw [] xa xk xc0 xc1 xc2 xc3 h0 Oh V_xa hc0_ hc1_ hc2_ hc3_) (W := 0) (by decide) hml (Ls := #[rv xs, rv xa, iv 0, iv 4, .val .null, uu]) rfl (rest := []) rfl rfl hby d5_36
  obtain ⟨nb1, nk1, rfl, K1, gn_nb1, V_nb1⟩ := hQ
  have ge_nb1 := Nat.le_trans K.le gn_nb1
  have ne_xs_nb1 : xs ≠ nb1 := Nat.ne_of_lt (Nat.lt_of_lt_of_le lt_xs gn_nb1)
  have ne_xa_nb1 : xa ≠ nb1 := Nat.ne_of_lt (Nat.lt_of_lt_of_le lt_xa gn_nb1)
  have K := K.call K1 all0
  refine oWk.st (fun _ kt => st _ (zT X hx hby d5_39 rfl rfl rfl (l' := #[rv xs, rv xa, iv 0, iv 4, .val .null, rv nb1]) rfl (zA X hx hby d5_41 rfl rfl rfl (zB X hx hby d5_42 rfl rfl rfl (zI X hx hby d5_44 rfl rfl kt))))) ?_
  have Oh := K.old O0 (allS og_xs all0)
  obtain ⟨T, L4, X, e0, K, st⟩ := (cs18 hw).pure X hx hZ hown e0 K (A := [(.ref nb1), (.int (4 : Int32))]) rfl (rCo_4 l Z a0 hw [] nb1 nk1 (xc0.toInt8.toInt32) (xc1.toInt8.toInt32) (xc2.toInt8.toInt32) (xc3.toInt8.toInt32) h Oh V_nb1) (W := 1) (by decide) hml (Ls := #[rv xs, rv xa, iv 0, iv 4, .val .null, rv nb1]) rfl (rest := [(.ref xs)]) rfl rfl hby d5_45
  refine oWk.st (fun _ kt => st _ kt) ?_
  have E_xs := (E_xs.keep K1.1)
  have F_coder_xs := (F_coder_xs.keep K1.1 nin0)
  obtain ⟨T, h, X, e0, W5, st⟩ := putFN X hx hZ hown (oW hw 34 rfl) Via.refl e0 F_coder_xs E_xs (Or.inr ⟨(oW hw 30 rfl), rfl, hnm⟩) (oW hw 15 rfl) (ty := .byte) (v' := .int (0 : Int32)) (by decide) rfl (by decide) (g := (mkF m 48 #[rv xs, rv xa, iv 0, iv 4, .val .null, rv nb1] [(.int 0), (.ref xs)])) rfl rfl (hb hby d5_48)
  have K := K.wr W5 (Or.inl (List.mem_of_getElem? (i := 0) rfl))
  have F_coder_xs := F_coder_xs.same W5
  refine oWk.st (fun _ kt => st _ (zA X hx hby d5_51 rfl rfl rfl (zB X hx hby d5_52 rfl rfl rfl kt))) ?_
  have E_xs := (E_xs.wr W5)
  have F_value_xs := ((F_value_xs.keep K1.1 nin0).other W5 (Or.inr (slot_ne (Or.inr (oW hw 29 rfl)) (Or.inr (oW hw 30 rfl)) (by decide) (t := (.array .byte)) (t' := .byte) (by decide) (by decide))))
  obtain ⟨T, h, X, e0, W6, st⟩ := putF X hx hZ hown (host := "") (Or.inl (oW hw 33 rfl)) Via.refl e0 F_value_xs E_xs (Or.inr ⟨(oW hw 29 rfl), rfl, hnm⟩) (oW hw 15 rfl) (ty := (.array .byte)) (by decide) rfl rfl (g := (mkF m 54 #[rv xs, rv xa, iv 0, iv 4, .val .null, rv nb1] [(.ref nb1), (.ref xs)])) rfl rfl (hb hby d5_54)
  have K := K.wr W6 (Or.inl (List.mem_of_getElem? (i := 0) rfl))
  have F_value_xs := F_value_xs.same W6
  refine oWk.to (mkF m 57 #[rv xs, rv xa, iv 0, iv 4, .val .null, rv nb1] []) (fun _ kt => st _ kt) ?_
  have E_xs := (E_xs.wr W6)
  have F_coder_xs := (F_coder_xs.other W6 (Or.inr (slot_ne (Or.inr (oW hw 30 rfl)) (Or.inr (oW hw 29 rfl)) (by decide) (t := .byte) (t' := (.array .byte)) (by decide) (by decide))))
  have V_nb1 := ((V_nb1.other W5 (Ne.symm ne_xs_nb1)).other W6 (Ne.symm ne_xs_nb1))
  exact oRetV X hx hlk hret (hb hby d5_57) (by rw [e0]; exact ⟨nb1, nk1, rfl, K, E_xs, F_coder_xs, F_value_xs, ge_nb1, V_nb1⟩) (by decide) (by decide)
def Q_rI1_4 (Z : State) (xs xa : Addr) (xk : ClassId) (xz : Int32) (xu xv : Value) (xc0 xc1 xc2 xc3 : Int32) (h0 : Heap) (v : Option Value) (h : Heap) (L : List Loc) : Prop := ∃ (nb : Addr) (nk : ClassId), v = none ∧ oKp h0 h [xs] L ∧ (Exa Z h xs Y0) ∧ (Fld Z h xs Y0 "coder" "B" (.int (0 : Int32))) ∧ (Fld Z h xs Y0 "value" "[B" (.ref nb)) ∧ (h0.size ≤ nb) ∧ (Arv Z h nb nk .byte (4 : Int32) [(ib xc0), (ib xc1), (ib xc2), (ib xc3)] (.int (0 : Int32)))
theorem rI1_4 (l : Launch) (Z : State) (a0 : Array Value) (hw : oHW a0 Z) (ws : List Jvm.Cond) (xs xa : Addr) (xk : ClassId) (xz : Int32) (xu xv : Value) (xc0 xc1 xc2 xc3 : Int32) (h0 : Heap) (O0 : Ext Z.heap h0) (S_Z : Sta Z Z.heap Y0 Y2 "Z" (.int xz)) (hz : ¬ xz = (0 : Int32)) (og_xs : Z.heap.size ≤ xs) (E_xs : Exa Z h0 xs Y0) (F_value_xs : Fld Z h0 xs Y0 "value" "[B" xu) (F_coder_xs : Fld Z h0 xs Y0 "coder" "B" xv) (V_xa : Arv Z h0 xa xk .char (4 : Int32) [(.int xc0), (.int xc1), (.int xc2), (.int xc3)] (.int (0 : Int32))) (hc0_ : ¬ (255 : Int32) < xc0) (hc1_ : ¬ (255 : Int32) < xc1) (hc2_ : ¬ (255 : Int32) < xc2) (hc3_ : ¬ (255 : Int32) < xc3) :
    oCon l Z yy18 jdk_42_method_3_code 2 none ws ({ frames := 3, cells := 1, slots := 4, locals := 52 } : Room) #[(.ref xs), (.ref xa)] h0 (Q_rI1_4 Z xs xa xk xz xu xv xc0 xc1 xc2 xc3 h0) := by
  refine oCon.of (plainFor_of_name pn_0) ?_
  intro p e s m below meth c T X hx hby hml hown hnm hret hlk hZ e0
  have hml : c.maxLocals = 2 := hml
  have K : oKp h0 h0 [xs] [] := oKp.nil _ _
  refine oWk.cast (g' := (mkF m 0 #[rv xs, rv xa] [])) (by first | rfl | (simp [entryFrame, mkF, argsToLocals, Value.category]; done)) ?_
  refine oWk.st (fun _ kt => zA X hx hby d4_0 rfl rfl rfl (zA X hx hby d4_1 rfl rfl rfl (zK X hx hby d4_2 rfl (zA X hx hby d4_3 rfl rfl rfl (oAl X hx hZ e0 V_xa hby d4_4 rfl rfl (XS.aconstNull X.here hx rfl (hb hby d4_5) kt)))))) ?_
  have lt_xs := E_xs.lt
  have lt_xa := V_xa.lt
  have Oh := K.old O0 (allS og_xs all0)
  obtain ⟨_, T, h, Lc3, X, e0, hQ, st⟩ := (cs19 hw).run X hx hZ hown e0 (A := [(.ref xs), (.ref xa), (.int (0 : Int32)), (.int (4 : Int32)), .null]) ⟨rfl, _, _, rfl⟩ (rI4_4 l Z a0 hw [] xs xa xk xz xu xv xc0 xc1 xc2 xc3 h0 Oh S_Z hz og_xs E_xs F_value_xs F_coder_xs V_xa hc0_ hc1_ hc2_ hc3_) (W := 0) (by decide) hml (Ls := #[rv xs, rv xa]) rfl (rest := []) rfl rfl hby d4_6
  obtain ⟨nb2, nk2, rfl, K2, E_xs, F_coder_xs, F_value_xs, gn_nb2, V_nb2⟩ := hQ
  have ge_nb2 := Nat.le_trans K.le gn_nb2
  have ne_xs_nb2 : xs ≠ nb2 := Nat.ne_of_lt (Nat.lt_of_lt_of_le lt_xs gn_nb2)
  have ne_xa_nb2 : xa ≠ nb2 := Nat.ne_of_lt (Nat.lt_of_lt_of_le lt_xa gn_nb2)
  have K := K.call K2 (allS (Or.inl (List.mem_of_getElem? (i := 0) rfl)) all0)
  refine oWk.to (mkF m 9 #[rv xs, rv xa] []) (fun _ kt => st _ kt) ?_
  exact oRetV X hx hlk hret (hb hby d4_9) (by rw [e0]; exact ⟨nb2, nk2, rfl, K, E_xs, F_coder_xs, F_value_xs, ge_nb2, V_nb2⟩) (by decide) (by decide)
def Q_rC5U_1_0 (Z : State) (xa xd : Addr) (xk xl : ClassId) (xc0 : Int32) (h0 : Heap) (v : Option Value) (h : Heap) (L : List Loc) : Prop := v = some (.int (0 : Int32)) ∧ oKp h0 h [xd] L
theorem d16_23 : decode jdk_52_method_21_code 23 = .ok (.iload 5, 2) := by decide +kernel
theorem d16_25 : decode jdk_52_method_21_code 25 = .ok (.ireturn, 1) := by decide +kernel
theorem rC5U_1_0 (l : Launch) (Z : State) (a0 : Array Value) (hw : oHW a0 Z) (ws : List Jvm.Cond) (xa xd : Addr) (xk xl : ClassId) (xc0 : Int32) (h0 : Heap) (O0 : Ext Z.heap h0) (og_xd : Z.heap.size ≤ xd) (ne_xa_xd : xa ≠ xd) (V_xa : Arv Z h0 xa xk .char (1 : Int32) [(.int xc0)] (.int (0 : Int32))) (V_xd : Arv Z h0 xd xl .byte (1 : Int32) [(.int (0 : Int32))] (.int (0 : Int32))) (hgt : (255 : Int32) < xc0) :
    oCon l Z yy19 jdk_52_method_21_code 7 (some .int) ws ({ frames := 0, cells := 0, slots := 0, locals := 0 } : Room) #[(.ref xa), (.int (0 : Int32)), (.ref xd), (.int (0 : Int32)), (.int (1 : Int32))] h0 (Q_rC5U_1_0 Z xa xd xk xl xc0 h0) := by
  refine oCon.of (plainFor_of_name pn_2) ?_
  intro p e s m below meth c T X hx hby hml hown hnm hret hlk hZ e0
  have hml : c.maxLocals = 7 := hml
  have K : oKp h0 h0 [xd] [] := oKp.nil _ _
  refine oWk.cast (g' := (mkF m 0 #[rv xa, iv 0, rv xd, iv 0, iv 1, uu, uu] [])) (by first | rfl | (simp [entryFrame, mkF, argsToLocals, Value.category]; done)) ?_
  refine oWk.to (mkF m 12 #[rv xa, iv 0, rv xd, iv 0, iv 1, iv 0, uu] [(.int 0), (.ref xa)]) (fun _ kt => zK X hx hby d16_0 rfl (zS X hx hby d16_1 rfl rfl (l' := #[rv xa, iv 0, rv xd, iv 0, iv 1, iv 0, uu]) rfl (zJ X hx hby d16_3 rfl rfl (zJ X hx hby d16_5 rfl rfl (zN X hx hby d16_7 rfl rfl (tlt (by decide)).2.1 (zA X hx hby d16_10 rfl rfl rfl (zI X hx hby d16_11 rfl rfl kt))))))) ?_
  refine oWk.to (mkF m 20 #[rv xa, iv 0, rv xd, iv 0, iv 1, iv 0, iv xc0] [(.int 255), (.int xc0)]) (fun _ kt => oLdC X hx hZ e0 V_xa (0 : Int32) (.int xc0) ⟨by decide, by decide⟩ rfl hby d16_12 rfl rfl (zS X hx hby d16_13 rfl rfl (l' := #[rv xa, iv 0, rv xd, iv 0, iv 1, iv 0, iv xc0]) rfl (zJ X hx hby d16_15 rfl rfl (zM X hx hby d16_17 rfl kt)))) ?_
  refine oWk.to (mkF m 25 #[rv xa, iv 0, rv xd, iv 0, iv 1, iv 0, iv xc0] [(.int 0)]) (fun _ kt => zN X hx hby d16_20 rfl rfl (tlt hgt).2.2.2 (zJ X hx hby d16_23 rfl rfl kt)) ?_
  exact oRetI X hx hlk hret (hb hby d16_25) (by rw [e0]; exact ⟨rfl, K⟩) (by decide) (by decide)
abbrev yy22 : MethodName := ⟨"java/lang/StringUTF16", "newBytesLength", "(I)I"⟩
theorem d20_0 : decode jdk_52_method_3_code 0 = .ok (.iload_n 0, 1) := by decide +kernel
theorem d20_1 : decode jdk_52_method_3_code 1 = .ok (.ifCond .ge 11, 3) := by decide +kernel
theorem d20_12 : decode jdk_52_method_3_code 12 = .ok (.iload_n 0, 1) := by decide +kernel
theorem d20_13 : decode jdk_52_method_3_code 13 = .ok (.ldc 20, 2) := by decide +kernel
theorem d20_15 : decode jdk_52_method_3_code 15 = .ok (.if_icmp .lt 40, 3) := by decide +kernel
theorem d20_55 : decode jdk_52_method_3_code 55 = .ok (.iload_n 0, 1) := by decide +kernel
theorem d20_56 : decode jdk_52_method_3_code 56 = .ok (.iconst 1, 1) := by decide +kernel
theorem d20_57 : decode jdk_52_method_3_code 57 = .ok (.ishl, 1) := by decide +kernel
theorem d20_58 : decode jdk_52_method_3_code 58 = .ok (.ireturn, 1) := by decide +kernel
theorem rNBL_1 (l : Launch) (Z : State) (a0 : Array Value) (hw : oHW a0 Z) (ws : List Jvm.Cond)  (h0 : Heap) (O0 : Ext Z.heap h0)  :
    oCon l Z yy22 jdk_52_method_3_code 1 (some .int) ws ({ frames := 0, cells := 0, slots := 0, locals := 0 } : Room) #[(.int (1 : Int32))] h0 (oPq (some (.int (2 : Int32))) h0) := by
  refine oCon.of (plainFor_of_name pn_2) ?_
  intro p e s m below meth c T X hx hby hml hown hnm hret hlk hZ e0
  have hml : c.maxLocals = 1 := hml
  have K : oKp h0 h0 [] [] := oKp.nil _ _
  refine oWk.cast (g' := (mkF m 0 #[iv 1] [])) (by first | rfl | (simp [entryFrame, mkF, argsToLocals, Value.category]; done)) ?_
  refine oWk.st (fun _ kt => zI X hx hby d20_0 rfl rfl (zF X hx hby d20_1 rfl rfl ((if0 _ _).trans (flt (by decide)).2.1) (pc' := 12) rfl (zI X hx hby d20_12 rfl rfl kt))) ?_
  refine oWk.to (mkF m 58 #[iv 1] [(.int 2)]) (fun _ kt => X.ldcI hx hown (mvT hZ (oW hw 89 rfl)) rfl (hb hby d20_13) (zY X hx hby d20_15 rfl rfl (tlt (by decide)).1 (pc' := 55) rfl (zI X hx hby d20_55 rfl rfl (zK X hx hby d20_56 rfl (XS.ishl X.here hx rfl (hb hby d20_57) rfl kt))))) ?_
  exact oRetI X hx hlk hret (hb hby d20_58) (by rw [e0]; exact ⟨rfl, rfl, K⟩) (by decide) (by decide)
def Q_rNBF_1 (Z : State)  (h0 : Heap) (v : Option Value) (h : Heap) (L : List Loc) : Prop := ∃ (nb : Addr) (nk : ClassId), v = some (.ref nb) ∧ oKp h0 h [] L ∧ (h0.size ≤ nb) ∧ (Arv Z h nb nk .byte (2 : Int32) [(.int (0 : Int32)), (.int (0 : Int32))] (.int (0 : Int32)))
abbrev yy23 : MethodName := ⟨"java/lang/StringUTF16", "newBytesFor", "(I)[B"⟩
theorem d19_0 : decode jdk_52_method_2_code 0 = .ok (.iload_n 0, 1) := by decide +kernel
theorem d19_1 : decode jdk_52_method_2_code 1 = .ok (.invokestatic 11, 3) := by decide +kernel
theorem pd_16 : parseMethodDescriptor "(I)I" = some ⟨[.int], some .int⟩ := by decide +kernel
theorem cs20 {a0 : Array Value} {Z : State} (hw : oHW a0 Z) : oCall Z Y1 (.invokestatic 11) yy22 jdk_52_method_3_code 1 (some .int) (oRs 1) := oCall.stat (oW hw 86 rfl) (oW hw 87 rfl) (oW hw 70 rfl) (oW hw 88 rfl) (by decide) pd_16
theorem d19_4 : decode jdk_52_method_2_code 4 = .ok (.newarray .byte, 2) := by decide +kernel
theorem d19_6 : decode jdk_52_method_2_code 6 = .ok (.areturn, 1) := by decide +kernel
theorem rNBF_1 (l : Launch) (Z : State) (a0 : Array Value) (hw : oHW a0 Z) (ws : List Jvm.Cond)  (h0 : Heap) (O0 : Ext Z.heap h0)  :
    oCon l Z yy23 jdk_52_method_2_code 1 (some (.array .byte)) ws ({ frames := 1, cells := 1, slots := 2, locals := 12 } : Room) #[(.int (1 : Int32))] h0 (Q_rNBF_1 Z  h0) := by
  refine oCon.of (plainFor_of_name pn_2) ?_
  intro p e s m below meth c T X hx hby hml hown hnm hret hlk hZ e0
  have hml : c.maxLocals = 1 := hml
  have K : oKp h0 h0 [] [] := oKp.nil _ _
  refine oWk.cast (g' := (mkF m 0 #[iv 1] [])) (by first | rfl | (simp [entryFrame, mkF, argsToLocals, Value.category]; done)) ?_
  refine oWk.st (fun _ kt => zI X hx hby d19_0 rfl rfl kt) ?_
  have Oh := K.old O0 all0
  obtain ⟨T, L2, X, e0, K, st⟩ := (cs20 hw).pure X hx hZ hown e0 K (A := [(.int (1 : Int32))]) rfl (rNBL_1 l Z a0 hw []  h0 Oh ) (W := 0) (by decide) hml (Ls := #[iv 1]) rfl (rest := []) rfl rfl hby d19_1
  refine oWk.st (fun _ kt => st _ kt) ?_
  obtain ⟨o3, g3⟩ : ∃ z, z = h0.size := ⟨_, rfl⟩
  have ge_o3 : h0.size ≤ o3 := Nat.le_trans K.le (Nat.le_of_eq g3.symm)
  obtain ⟨T, h, k3, X, e0, E3, A3, st⟩ := newP X hx hZ (oW hw 28 rfl) e0 (g := (mkF m 4 #[iv 1] [(.int 2)])) rfl (hb hby d19_4) rfl (by decide) (cap := 2) (by decide) (by decide) (by decide) (by decide)
  rw [← g3] at A3 st
  have K := K.ext E3
  have V_o3 : Arv Z h o3 k3 .byte (2 : Int32) [(.int (0 : Int32)), (.int (0 : Int32))] (.int (0 : Int32)) := (Arv.new A3 (by decide)).pad (pad_rep [] (.int (0 : Int32)) 2)
  refine oWk.to (mkF m 6 #[iv 1] [(.ref o3)]) (fun _ kt => st _ kt) ?_
  exact oRetA X hx hlk hret rfl rfl (hb hby d19_6) (by rw [e0]; exact ⟨o3, k3, rfl, K, ge_o3, V_o3⟩) (by decide) (by decide)
def Q_rPut_1_0 (Z : State) (xb : Addr) (xk : ClassId) (xp xy0 xy1 : Int32) (h0 : Heap) (v : Option Value) (h : Heap) (L : List Loc) : Prop := v = none ∧ oKp h0 h [xb] L ∧ (Arv Z h xb xk .byte (2 : Int32) [(iu0 xp), (iu8 xp)] (.int (0 : Int32)))
abbrev yy24 : MethodName := ⟨"java/lang/StringUTF16", "putChar", "([BII)V"⟩
theorem d21_0 : decode jdk_52_method_4_code 0 = .ok (.getstatic 44, 3) := by decide +kernel
theorem d21_3 : decode jdk_52_method_4_code 3 = .ok (.ifCond .ne 25, 3) := by decide +kernel
theorem d21_28 : decode jdk_52_method_4_code 28 = .ok (.iload_n 1, 1) := by decide +kernel
theorem d21_29 : decode jdk_52_method_4_code 29 = .ok (.iconst 1, 1) := by decide +kernel
theorem d21_30 : decode jdk_52_method_4_code 30 = .ok (.ishl, 1) := by decide +kernel
theorem d21_31 : decode jdk_52_method_4_code 31 = .ok (.istore_n 1, 1) := by decide +kernel
theorem d21_32 : decode jdk_52_method_4_code 32 = .ok (.aload_n 0, 1) := by decide +kernel
theorem d21_33 : decode jdk_52_method_4_code 33 = .ok (.iload_n 1, 1) := by decide +kernel
theorem d21_34 : decode jdk_52_method_4_code 34 = .ok (.iinc 1 1, 3) := by decide +kernel
theorem d21_37 : decode jdk_52_method_4_code 37 = .ok (.iload_n 2, 1) := by decide +kernel
theorem d21_38 : decode jdk_52_method_4_code 38 = .ok (.getstatic 59, 3) := by decide +kernel
theorem d21_41 : decode jdk_52_method_4_code 41 = .ok (.ishr, 1) := by decide +kernel
theorem d21_42 : decode jdk_52_method_4_code 42 = .ok (.i2b, 1) := by decide +kernel
theorem d21_43 : decode jdk_52_method_4_code 43 = .ok (.bastore, 1) := by decide +kernel
theorem d21_44 : decode jdk_52_method_4_code 44 = .ok (.aload_n 0, 1) := by decide +kernel
theorem d21_45 : decode jdk_52_method_4_code 45 = .ok (.iload_n 1, 1) := by decide +kernel
theorem d21_46 : decode jdk_52_method_4_code 46 = .ok (.iload_n 2, 1) := by decide +kernel
theorem d21_47 : decode jdk_52_method_4_code 47 = .ok (.getstatic 63, 3) := by decide +kernel
theorem d21_50 : decode jdk_52_method_4_code 50 = .ok (.ishr, 1) := by decide +kernel
theorem d21_51 : decode jdk_52_method_4_code 51 = .ok (.i2b, 1) := by decide +kernel
theorem d21_52 : decode jdk_52_method_4_code 52 = .ok (.bastore, 1) := by decide +kernel
theorem d21_53 : decode jdk_52_method_4_code 53 = .ok (.return_, 1) := by decide +kernel
theorem rPut_1_0 (l : Launch) (Z : State) (a0 : Array Value) (hw : oHW a0 Z) (ws : List Jvm.Cond) (xb : Addr) (xk : ClassId) (xp xy0 xy1 : Int32) (h0 : Heap) (O0 : Ext Z.heap h0) (S_A : Sta Z Z.heap Y1 Y3 "Z" (.int (1 : Int32))) (S_H : Sta Z Z.heap Y1 "HI_BYTE_SHIFT" "I" (.int (0 : Int32))) (S_L : Sta Z Z.heap Y1 "LO_BYTE_SHIFT" "I" (.int (8 : Int32))) (og_xb : Z.heap.size ≤ xb) (V_xb : Arv Z h0 xb xk .byte (2 : Int32) [(.int xy0), (.int xy1)] (.int (0 : Int32))) :
    oCon l Z yy24 jdk_52_method_4_code 3 none ws ({ frames := 0, cells := 0, slots := 0, locals := 0 } : Room) #[(.ref xb), (.int (0 : Int32)), (.int xp)] h0 (Q_rPut_1_0 Z xb xk xp xy0 xy1 h0) := by
  refine oCon.of (plainFor_of_name pn_2) ?_
  intro p e s m below meth c T X hx hby hml hown hnm hret hlk hZ e0
  have hml : c.maxLocals = 3 := hml
  have K : oKp h0 h0 [xb] [] := oKp.nil _ _
  refine oWk.cast (g' := (mkF m 0 #[rv xb, iv 0, iv xp] [])) (by first | rfl | (simp [entryFrame, mkF, argsToLocals, Value.category]; done)) ?_
  have Oh := K.old O0 (allS og_xb all0)
  obtain ⟨T, X, e0, st⟩ := getS2 X hx hZ hown (host := "") (Or.inl (oW hw 93 rfl)) Via.refl e0 (S_A.ext Oh) (g := (mkF m 0 #[rv xb, iv 0, iv xp] [])) rfl (hb hby d21_0)
  refine oWk.to (mkF m 33 #[rv xb, iv 0, iv xp] [(.ref xb)]) (fun _ kt => st _ (zF X hx hby d21_3 rfl rfl ((if0 _ _).trans (feq (by decide)).2) (pc' := 28) rfl (zI X hx hby d21_28 rfl rfl (zK X hx hby d21_29 rfl (XS.ishl X.here hx rfl (hb hby d21_30) rfl (zSn X hx hby d21_31 rfl rfl (l' := #[rv xb, iv 0, iv xp]) rfl (zA X hx hby d21_32 rfl rfl rfl kt))))))) ?_
  refine oWk.st (fun _ kt => zI X hx hby d21_33 rfl rfl (zC X hx hby d21_34 rfl rfl (l' := #[rv xb, iv ((0 : Int32) + (1 : Int32)), iv xp]) rfl (zI X hx hby d21_37 rfl rfl kt))) ?_
  obtain ⟨T, X, e0, st⟩ := getS2 X hx hZ hown (host := "") (Or.inl (oW hw 94 rfl)) Via.refl e0 (S_H.ext Oh) (g := (mkF m 38 #[rv xb, iv 1, iv xp] [(.int xp), (.int 0), (.ref xb)])) rfl (hb hby d21_38)
  refine oWk.st (fun _ kt => st _ (XS.ishr X.here hx rfl (hb hby d21_41) rfl (XS.i2b X.here hx rfl (hb hby d21_42) rfl kt))) ?_
  obtain ⟨cl1, Ar1, q1, Sz1, Nn1, Hs1, Ft1⟩ := id V_xb
  have hin1 : ¬ ((0 : Int32) < 0 ∨ cl1.slots.size ≤ ((0 : Int32)).toNatClampNeg) := inb_of Sz1 ⟨by decide, by decide⟩
  obtain ⟨T, h, X, e0, W1, st⟩ := stB X hx hZ e0 Ar1 (j := (0 : Int32)) hin1 (g := (mkF m 43 #[rv xb, iv 1, iv xp] [(iu0 xp), (.int 0), (.ref xb)])) rfl rfl (hb hby d21_43)
  have K := K.wr W1 (Or.inl (List.mem_of_getElem? (i := 0) rfl))
  have V_xb := Arv.set Ar1 q1 Sz1 Nn1 Hs1 Ft1 (fits_nar_byte _) W1 0 rfl (Nat.le_of_ble_eq_true rfl)
  rw [oB8 (xp >>> ((0 : Int32) &&& 31))] at V_xb
  replace V_xb : Arv Z h xb xk .byte (2 : Int32) [(iu0 xp), (.int xy1)] (.int (0 : Int32)) := V_xb
  refine oWk.st (fun _ kt => st _ (zA X hx hby d21_44 rfl rfl rfl (zI X hx hby d21_45 rfl rfl (zI X hx hby d21_46 rfl rfl kt)))) ?_
  have Oh := K.old O0 (allS og_xb all0)
  obtain ⟨T, X, e0, st⟩ := getS2 X hx hZ hown (host := "") (Or.inl (oW hw 95 rfl)) Via.refl e0 (S_L.ext Oh) (g := (mkF m 47 #[rv xb, iv 1, iv xp] [(.int xp), (.int 1), (.ref xb)])) rfl (hb hby d21_47)
  refine oWk.st (fun _ kt => st _ (XS.ishr X.here hx rfl (hb hby d21_50) rfl (XS.i2b X.here hx rfl (hb hby d21_51) rfl kt))) ?_
  obtain ⟨cl2, Ar2, q2, Sz2, Nn2, Hs2, Ft2⟩ := id V_xb
  have hin2 : ¬ ((1 : Int32) < 0 ∨ cl2.slots.size ≤ ((1 : Int32)).toNatClampNeg) := inb_of Sz2 ⟨by decide, by decide⟩
  obtain ⟨T, h, X, e0, W2, st⟩ := stB X hx hZ e0 Ar2 (j := (1 : Int32)) hin2 (g := (mkF m 52 #[rv xb, iv 1, iv xp] [(iu8 xp), (.int 1), (.ref xb)])) rfl rfl (hb hby d21_52)
  have K := K.wr W2 (Or.inl (List.mem_of_getElem? (i := 0) rfl))
  have V_xb := Arv.set Ar2 q2 Sz2 Nn2 Hs2 Ft2 (fits_nar_byte _) W2 1 rfl (Nat.le_of_ble_eq_true rfl)
  rw [oB8 (xp >>> ((8 : Int32) &&& 31))] at V_xb
  replace V_xb : Arv Z h xb xk .byte (2 : Int32) [(iu0 xp), (iu8 xp)] (.int (0 : Int32)) := V_xb
  refine oWk.to (mkF m 53 #[rv xb, iv 1, iv xp] []) (fun _ kt => st _ kt) ?_
  exact oRetV X hx hlk hret (hb hby d21_53) (by rw [e0]; exact ⟨rfl, K, V_xb⟩) (by decide) (by decide)
def Q_rTBU_1 (Z : State) (xa : Addr) (xk : ClassId) (xc0 : Int32) (h0 : Heap) (v : Option Value) (h : Heap) (L : List Loc) : Prop := ∃ (nb : Addr) (nk : ClassId), v = some (.ref nb) ∧ oKp h0 h [] L ∧ (h0.size ≤ nb) ∧ (Arv Z h nb nk .byte (2 : Int32) [(iu0 xc0), (iu8 xc0)] (.int (0 : Int32)))
abbrev yy25 : MethodName := ⟨"java/lang/StringUTF16", "toBytes", "([CII)[B"⟩
theorem d18_0 : decode jdk_52_method_14_code 0 = .ok (.iload_n 2, 1) := by decide +kernel
theorem d18_1 : decode jdk_52_method_14_code 1 = .ok (.invokestatic 107, 3) := by decide +kernel
theorem pd_17 : parseMethodDescriptor "(I)[B" = some ⟨[.int], some (.array .byte)⟩ := by decide +kernel
theorem cs21 {a0 : Array Value} {Z : State} (hw : oHW a0 Z) : oCall Z Y1 (.invokestatic 107) yy23 jdk_52_method_2_code 1 (some (.array .byte)) (oRs 1) := oCall.stat (oW hw 83 rfl) (oW hw 84 rfl) (oW hw 70 rfl) (oW hw 85 rfl) (by decide) pd_17
theorem d18_4 : decode jdk_52_method_14_code 4 = .ok (.astore_n 3, 1) := by decide +kernel
theorem d18_5 : decode jdk_52_method_14_code 5 = .ok (.iconst 0, 1) := by decide +kernel
theorem d18_6 : decode jdk_52_method_14_code 6 = .ok (.istore 4, 2) := by decide +kernel
theorem d18_8 : decode jdk_52_method_14_code 8 = .ok (.iload 4, 2) := by decide +kernel
theorem d18_10 : decode jdk_52_method_14_code 10 = .ok (.iload_n 2, 1) := by decide +kernel
theorem d18_11 : decode jdk_52_method_14_code 11 = .ok (.if_icmp .ge 21, 3) := by decide +kernel
theorem d18_14 : decode jdk_52_method_14_code 14 = .ok (.aload_n 3, 1) := by decide +kernel
theorem d18_15 : decode jdk_52_method_14_code 15 = .ok (.iload 4, 2) := by decide +kernel
theorem d18_17 : decode jdk_52_method_14_code 17 = .ok (.aload_n 0, 1) := by decide +kernel
theorem d18_18 : decode jdk_52_method_14_code 18 = .ok (.iload_n 1, 1) := by decide +kernel
theorem d18_19 : decode jdk_52_method_14_code 19 = .ok (.caload, 1) := by decide +kernel
theorem d18_20 : decode jdk_52_method_14_code 20 = .ok (.invokestatic 111, 3) := by decide +kernel
theorem pd_18 : parseMethodDescriptor "([BII)V" = some ⟨[(.array .byte), .int, .int], none⟩ := by decide +kernel
theorem cs22 {a0 : Array Value} {Z : State} (hw : oHW a0 Z) : oCall Z Y1 (.invokestatic 111) yy24 jdk_52_method_4_code 3 none (oRs 3) := oCall.stat (oW hw 90 rfl) (oW hw 91 rfl) (oW hw 70 rfl) (oW hw 92 rfl) (by decide) pd_18
theorem d18_23 : decode jdk_52_method_14_code 23 = .ok (.iinc 1 1, 3) := by decide +kernel
theorem d18_26 : decode jdk_52_method_14_code 26 = .ok (.iinc 4 1, 3) := by decide +kernel
theorem d18_29 : decode jdk_52_method_14_code 29 = .ok (.goto (-21), 3) := by decide +kernel
theorem d18_32 : decode jdk_52_method_14_code 32 = .ok (.aload_n 3, 1) := by decide +kernel
theorem d18_33 : decode jdk_52_method_14_code 33 = .ok (.areturn, 1) := by decide +kernel
theorem rTBU_1 (l : Launch) (Z : State) (a0 : Array Value) (hw : oHW a0 Z) (ws : List Jvm.Cond) (xa : Addr) (xk : ClassId) (xc0 : Int32) (h0 : Heap) (O0 : Ext Z.heap h0) (S_A : Sta Z Z.heap Y1 Y3 "Z" (.int (1 : Int32))) (S_H : Sta Z Z.heap Y1 "HI_BYTE_SHIFT" "I" (.int (0 : Int32))) (S_L : Sta Z Z.heap Y1 "LO_BYTE_SHIFT" "I" (.int (8 : Int32))) (V_xa : Arv Z h0 xa xk .char (1 : Int32) [(.int xc0)] (.int (0 : Int32))) :
    oCon l Z yy25 jdk_52_method_14_code 5 (some (.array .byte)) ws ({ frames := 2, cells := 1, slots := 2, locals := 24 } : Room) #[(.ref xa), (.int (0 : Int32)), (.int (1 : Int32))] h0 (Q_rTBU_1 Z xa xk xc0 h0) := by
  refine oCon.of (plainFor_of_name pn_2) ?_
  intro p e s m below meth c T X hx hby hml hown hnm hret hlk hZ e0
  have hml : c.maxLocals = 5 := hml
  have K : oKp h0 h0 [] [] := oKp.nil _ _
  refine oWk.cast (g' := (mkF m 0 #[rv xa, iv 0, iv 1, uu, uu] [])) (by first | rfl | (simp [entryFrame, mkF, argsToLocals, Value.category]; done)) ?_
  refine oWk.st (fun _ kt => zI X hx hby d18_0 rfl rfl kt) ?_
  have lt_xa := V_xa.lt
  have Oh := K.old O0 all0
  obtain ⟨_, T, h, Lc2, X, e0, hQ, st⟩ := (cs21 hw).run X hx hZ hown e0 (A := [(.int (1 : Int32))]) rfl (rNBF_1 l Z a0 hw []  h0 Oh ) (W := 0) (by decide) hml (Ls := #[rv xa, iv 0, iv 1, uu, uu]) rfl (rest := []) rfl rfl hby d18_1
  obtain ⟨nb1, nk1, rfl, K1, gn_nb1, V_nb1⟩ := hQ
  have ge_nb1 := Nat.le_trans K.le gn_nb1
  have ne_xa_nb1 : xa ≠ nb1 := Nat.ne_of_lt (Nat.lt_of_lt_of_le lt_xa gn_nb1)
  have K := K.call K1 all0
  refine oWk.to (mkF m 14 #[rv xa, iv 0, iv 1, rv nb1, iv 0] []) (fun _ kt => st _ (zTn X hx hby d18_4 rfl rfl rfl (l' := #[rv xa, iv 0, iv 1, rv nb1, uu]) rfl (zK X hx hby d18_5 rfl (zS X hx hby d18_6 rfl rfl (l' := #[rv xa, iv 0, iv 1, rv nb1, iv 0]) rfl (zJ X hx hby d18_8 rfl rfl (zI X hx hby d18_10 rfl rfl (zN X hx hby d18_11 rfl rfl (tlt (by decide)).2.1 kt))))))) ?_
  refine oWk.st (fun _ kt => zA X hx hby d18_14 rfl rfl rfl (zJ X hx hby d18_15 rfl rfl (zA X hx hby d18_17 rfl rfl rfl (zI X hx hby d18_18 rfl rfl kt)))) ?_
  have V_xa := (V_xa.keep K1.1 nin0)
  refine oWk.st (fun _ kt => oLdC X hx hZ e0 V_xa (0 : Int32) (.int xc0) ⟨by decide, by decide⟩ rfl hby d18_19 rfl rfl kt) ?_
  have Oh := K.old O0 all0
  obtain ⟨_, T, h, Lc5, X, e0, hQ, st⟩ := (cs22 hw).run X hx hZ hown e0 (A := [(.ref nb1), (.int (0 : Int32)), (.int xc0)]) rfl (rPut_1_0 l Z a0 hw [] nb1 nk1 xc0 (0 : Int32) (0 : Int32) h Oh S_A S_H S_L (Nat.le_trans O0.1 ge_nb1) V_nb1) (W := 0) (by decide) hml (Ls := #[rv xa, iv 0, iv 1, rv nb1, iv 0]) rfl (rest := []) rfl rfl hby d18_20
  obtain ⟨rfl, K4, V_nb1⟩ := hQ
  have K := K.call K4 (allS (Or.inr ge_nb1) all0)
  refine oWk.to (mkF m 32 #[rv xa, iv 1, iv 1, rv nb1, iv 1] []) (fun _ kt => st _ (zC X hx hby d18_23 rfl rfl (l' := #[rv xa, iv ((0 : Int32) + (1 : Int32)), iv 1, rv nb1, iv 0]) rfl (zC X hx hby d18_26 rfl rfl (l' := #[rv xa, iv 1, iv 1, rv nb1, iv ((0 : Int32) + (1 : Int32))]) rfl (zG X hx hby d18_29 rfl (pc' := 8) rfl (zJ X hx hby d18_8 rfl rfl (zI X hx hby d18_10 rfl rfl (zY X hx hby d18_11 rfl rfl (flt (by decide)).2.1 (pc' := 32) rfl kt))))))) ?_
  refine oWk.to (mkF m 33 #[rv xa, iv 1, iv 1, rv nb1, iv 1] [(.ref nb1)]) (fun _ kt => zA X hx hby d18_32 rfl rfl rfl kt) ?_
  exact oRetA X hx hlk hret rfl rfl (hb hby d18_33) (by rw [e0]; exact ⟨nb1, nk1, rfl, K, ge_nb1, V_nb1⟩) (by decide) (by decide)
def Q_rC3U_1 (Z : State) (xa : Addr) (xk : ClassId) (xc0 : Int32) (h0 : Heap) (v : Option Value) (h : Heap) (L : List Loc) : Prop := ∃ (nb : Addr) (nk : ClassId), v = some (.ref nb) ∧ oKp h0 h [] L ∧ (h0.size ≤ nb) ∧ (Arv Z h nb nk .byte (2 : Int32) [(iu0 xc0), (iu8 xc0)] (.int (0 : Int32)))
theorem d15_20 : decode jdk_52_method_16_code 20 = .ok (.aload_n 0, 1) := by decide +kernel
theorem d15_21 : decode jdk_52_method_16_code 21 = .ok (.iload_n 1, 1) := by decide +kernel
theorem d15_22 : decode jdk_52_method_16_code 22 = .ok (.iload_n 2, 1) := by decide +kernel
theorem d15_23 : decode jdk_52_method_16_code 23 = .ok (.invokestatic 119, 3) := by decide +kernel
theorem cs23 {a0 : Array Value} {Z : State} (hw : oHW a0 Z) : oCall Z Y1 (.invokestatic 119) yy25 jdk_52_method_14_code 5 (some (.array .byte)) (oRs 3) := oCall.stat (oW hw 80 rfl) (oW hw 81 rfl) (oW hw 70 rfl) (oW hw 82 rfl) (by decide) pd_14
theorem d15_26 : decode jdk_52_method_16_code 26 = .ok (.astore 5, 2) := by decide +kernel
theorem d15_28 : decode jdk_52_method_16_code 28 = .ok (.aload 5, 2) := by decide +kernel
theorem d15_30 : decode jdk_52_method_16_code 30 = .ok (.iload 4, 2) := by decide +kernel
theorem d15_32 : decode jdk_52_method_16_code 32 = .ok (.invokestatic 71, 3) := by decide +kernel
theorem d15_35 : decode jdk_52_method_16_code 35 = .ok (.sipush 255, 3) := by decide +kernel
theorem d15_38 : decode jdk_52_method_16_code 38 = .ok (.if_icmp .gt 16, 3) := by decide +kernel
theorem d15_54 : decode jdk_52_method_16_code 54 = .ok (.aload 5, 2) := by decide +kernel
theorem d15_56 : decode jdk_52_method_16_code 56 = .ok (.areturn, 1) := by decide +kernel
theorem rC3U_1 (l : Launch) (Z : State) (a0 : Array Value) (hw : oHW a0 Z) (ws : List Jvm.Cond) (xa : Addr) (xk : ClassId) (xc0 : Int32) (h0 : Heap) (O0 : Ext Z.heap h0) (S_A : Sta Z Z.heap Y1 Y3 "Z" (.int (1 : Int32))) (S_H : Sta Z Z.heap Y1 "HI_BYTE_SHIFT" "I" (.int (0 : Int32))) (S_L : Sta Z Z.heap Y1 "LO_BYTE_SHIFT" "I" (.int (8 : Int32))) (V_xa : Arv Z h0 xa xk .char (1 : Int32) [(.int xc0)] (.int (0 : Int32))) (hr0 : 0 ≤ xc0.toInt ∧ xc0.toInt < 65536) (hU : ((255 : Int32) < xc0)) :
    oCon l Z yy20 jdk_52_method_16_code 6 (some (.array .byte)) ws ({ frames := 3, cells := 2, slots := 3, locals := 40 } : Room) #[(.ref xa), (.int (0 : Int32)), (.int (1 : Int32))] h0 (Q_rC3U_1 Z xa xk xc0 h0) := by
  refine oCon.of (plainFor_of_name pn_2) ?_
  intro p e s m below meth c T X hx hby hml hown hnm hret hlk hZ e0
  have hml : c.maxLocals = 6 := hml
  have K : oKp h0 h0 [] [] := oKp.nil _ _
  refine oWk.cast (g' := (mkF m 0 #[rv xa, iv 0, iv 1, uu, uu, uu] [])) (by first | rfl | (simp [entryFrame, mkF, argsToLocals, Value.category]; done)) ?_
  have hgt := hU
  · show oWk _ _ _ _ T (mkF m 0 #[rv xa, iv 0, iv 1, uu, uu, uu] [])
    refine oWk.st (fun _ kt => zI X hx hby d15_0 rfl rfl kt) ?_
    obtain ⟨o1, g1⟩ : ∃ z, z = h0.size := ⟨_, rfl⟩
    have ne_xa_o1 : xa ≠ o1 := Nat.ne_of_lt (Nat.lt_of_lt_of_le V_xa.lt (Nat.le_of_eq g1.symm))
    have ge_o1 : h0.size ≤ o1 := Nat.le_trans K.le (Nat.le_of_eq g1.symm)
    obtain ⟨T, h, k1, X, e0, E1, A1, st⟩ := newP X hx hZ (oW hw 28 rfl) e0 (g := (mkF m 1 #[rv xa, iv 0, iv 1, uu, uu, uu] [(.int 1)])) rfl (hb hby d15_1) rfl (by decide) (cap := 1) (by decide) (by decide) (by decide) (by decide)
    rw [← g1] at A1 st
    have K := K.ext E1
    have V_o1 : Arv Z h o1 k1 .byte (1 : Int32) [(.int (0 : Int32))] (.int (0 : Int32)) := (Arv.new A1 (by decide)).pad (pad_rep [] (.int (0 : Int32)) 1)
    refine oWk.to (mkF m 9 #[rv xa, iv 0, iv 1, rv o1, uu, uu] [(.int 1), (.int 0), (.ref o1), (.int 0), (.ref xa)]) (fun _ kt => st _ (zTn X hx hby d15_3 rfl rfl rfl (l' := #[rv xa, iv 0, iv 1, rv o1, uu, uu]) rfl (zA X hx hby d15_4 rfl rfl rfl (zI X hx hby d15_5 rfl rfl (zA X hx hby d15_6 rfl rfl rfl (zK X hx hby d15_7 rfl (zI X hx hby d15_8 rfl rfl kt))))))) ?_
    have V_xa := (V_xa.ext E1)
    have Oh := K.old O0 all0
    obtain ⟨_, T, h, Lc3, X, e0, hQ, st⟩ := (cs16 hw).run X hx hZ hown e0 (A := [(.ref xa), (.int (0 : Int32)), (.ref o1), (.int (0 : Int32)), (.int (1 : Int32))]) rfl (rC5U_1_0 l Z a0 hw [] xa o1 xk k1 xc0 h Oh (Nat.le_trans O0.1 ge_o1) ne_xa_o1 V_xa V_o1 hgt) (W := 0) (by decide) hml (Ls := #[rv xa, iv 0, iv 1, rv o1, uu, uu]) rfl (rest := []) rfl rfl hby d15_9
    obtain ⟨rfl, K2⟩ := hQ
    have K := K.call K2 (allS (Or.inr ge_o1) all0)
    refine oWk.to (mkF m 22 #[rv xa, iv 0, iv 1, rv o1, iv 0, uu] [(.int 0), (.ref xa)]) (fun _ kt => st _ (zS X hx hby d15_12 rfl rfl (l' := #[rv xa, iv 0, iv 1, rv o1, iv 0, uu]) rfl (zJ X hx hby d15_14 rfl rfl (zI X hx hby d15_16 rfl rfl (zN X hx hby d15_17 rfl rfl (feq (by decide)).1 (zA X hx hby d15_20 rfl rfl rfl (zI X hx hby d15_21 rfl rfl kt))))))) ?_
    refine oWk.st (fun _ kt => zI X hx hby d15_22 rfl rfl kt) ?_
    have V_xa := (V_xa.keep K2.1 (ninS ne_xa_o1 nin0))
    have lt_xa := V_xa.lt
    have Oh := K.old O0 all0
    obtain ⟨_, T, h, Lc5, X, e0, hQ, st⟩ := (cs23 hw).run X hx hZ hown e0 (A := [(.ref xa), (.int (0 : Int32)), (.int (1 : Int32))]) rfl (rTBU_1 l Z a0 hw [] xa xk xc0 h Oh S_A S_H S_L V_xa) (W := 0) (by decide) hml (Ls := #[rv xa, iv 0, iv 1, rv o1, iv 0, uu]) rfl (rest := []) rfl rfl hby d15_23
    obtain ⟨nb4, nk4, rfl, K4, gn_nb4, V_nb4⟩ := hQ
    have ge_nb4 := Nat.le_trans K.le gn_nb4
    have ne_xa_nb4 : xa ≠ nb4 := Nat.ne_of_lt (Nat.lt_of_lt_of_le lt_xa gn_nb4)
    have K := K.call K4 all0
    refine oWk.st (fun _ kt => st _ (zT X hx hby d15_26 rfl rfl rfl (l' := #[rv xa, iv 0, iv 1, rv o1, iv 0, rv nb4]) rfl (zB X hx hby d15_28 rfl rfl rfl (zJ X hx hby d15_30 rfl rfl kt)))) ?_
    have Oh := K.old O0 all0
    obtain ⟨T, L7, X, e0, K, st⟩ := (cs5 hw).pure X hx hZ hown e0 K (A := [(.ref nb4), (.int (0 : Int32))]) rfl (rGC_1_0 l Z a0 hw [] nb4 nk4 xc0 h Oh S_A S_H S_L hr0 V_nb4) (W := 0) (by decide) hml (Ls := #[rv xa, iv 0, iv 1, rv o1, iv 0, rv nb4]) rfl (rest := []) rfl rfl hby d15_32
    refine oWk.to (mkF m 56 #[rv xa, iv 0, iv 1, rv o1, iv 0, rv nb4] [(.ref nb4)]) (fun _ kt => st _ (zM X hx hby d15_35 rfl (zY X hx hby d15_38 rfl rfl (tlt hgt).2.2.1 (pc' := 54) rfl (zB X hx hby d15_54 rfl rfl rfl kt)))) ?_
    exact oRetA X hx hlk hret rfl rfl (hb hby d15_56) (by rw [e0]; exact ⟨nb4, nk4, rfl, K, ge_nb4, V_nb4⟩) (by decide) (by decide)
theorem rCoU_1 (l : Launch) (Z : State) (a0 : Array Value) (hw : oHW a0 Z) (ws : List Jvm.Cond) (xb : Addr) (xk : ClassId) (xc0 : Int32) (h0 : Heap) (O0 : Ext Z.heap h0) (V_xb : Arv Z h0 xb xk .byte (2 : Int32) [(iu0 xc0), (iu8 xc0)] (.int (0 : Int32))) :
    oCon l Z yy21 jdk_52_method_15_code 2 (some .byte) ws ({ frames := 0, cells := 0, slots := 0, locals := 0 } : Room) #[(.ref xb), (.int (1 : Int32))] h0 (oPq (some (.int (1 : Int32))) h0) := by
  refine oCon.of (plainFor_of_name pn_2) ?_
  intro p e s m below meth c T X hx hby hml hown hnm hret hlk hZ e0
  have hml : c.maxLocals = 2 := hml
  have K : oKp h0 h0 [] [] := oKp.nil _ _
  refine oWk.cast (g' := (mkF m 0 #[rv xb, iv 1] [])) (by first | rfl | (simp [entryFrame, mkF, argsToLocals, Value.category]; done)) ?_
  refine oWk.to (mkF m 8 #[rv xb, iv 1] [(.int 1)]) (fun _ kt => zI X hx hby d17_0 rfl rfl (zA X hx hby d17_1 rfl rfl rfl (oAl X hx hZ e0 V_xb hby d17_2 rfl rfl (XS.isub X.here hx rfl (hb hby d17_3) rfl (zL X hx hby d17_4 rfl (XS.iushr X.here hx rfl (hb hby d17_6) rfl (XS.i2b X.here hx rfl (hb hby d17_7) rfl kt))))))) ?_
  exact oRetN X hx hlk hret (Or.inl rfl) rfl (hb hby d17_8) (by rw [e0]; exact ⟨rfl, rfl, K⟩) (by decide) (by decide)
def Q_rI4U_1 (Z : State) (xs xa : Addr) (xk : ClassId) (xz : Int32) (xu xv : Value) (xc0 : Int32) (h0 : Heap) (v : Option Value) (h : Heap) (L : List Loc) : Prop := ∃ (nb : Addr) (nk : ClassId), v = none ∧ oKp h0 h [xs] L ∧ (Exa Z h xs Y0) ∧ (Fld Z h xs Y0 "coder" "B" (.int (1 : Int32))) ∧ (Fld Z h xs Y0 "value" "[B" (.ref nb)) ∧ (h0.size ≤ nb) ∧ (Arv Z h nb nk .byte (2 : Int32) [(iu0 xc0), (iu8 xc0)] (.int (0 : Int32)))
theorem rI4U_1 (l : Launch) (Z : State) (a0 : Array Value) (hw : oHW a0 Z) (ws : List Jvm.Cond) (xs xa : Addr) (xk : ClassId) (xz : Int32) (xu xv : Value) (xc0 : Int32) (h0 : Heap) (O0 : Ext Z.heap h0) (S_Z : Sta Z Z.heap Y0 Y2 "Z" (.int xz)) (hz : ¬ xz = (0 : Int32)) (S_A : Sta Z Z.heap Y1 Y3 "Z" (.int (1 : Int32))) (S_H : Sta Z Z.heap Y1 "HI_BYTE_SHIFT" "I" (.int (0 : Int32))) (S_L : Sta Z Z.heap Y1 "LO_BYTE_SHIFT" "I" (.int (8 : Int32))) (og_xs : Z.heap.size ≤ xs) (E_xs : Exa Z h0 xs Y0) (F_value_xs : Fld Z h0 xs Y0 "value" "[B" xu) (F_coder_xs : Fld Z h0 xs Y0 "coder" "B" xv) (V_xa : Arv Z h0 xa xk .char (1 : Int32) [(.int xc0)] (.int (0 : Int32))) (hr0 : 0 ≤ xc0.toInt ∧ xc0.toInt < 65536) (hU : ((255 : Int32) < xc0)) :
    oCon l Z yy17 jdk_42_method_149_code 6 none ws ({ frames := 4, cells := 2, slots := 3, locals := 57 } : Room) #[(.ref xs), (.ref xa), (.int (0 : Int32)), (.int (1 : Int32)), .null] h0 (Q_rI4U_1 Z xs xa xk xz xu xv xc0 h0) := by
  refine oCon.of (plainFor_of_name pn_0) ?_
  intro p e s m below meth c T X hx hby hml hown hnm hret hlk hZ e0
  have hml : c.maxLocals = 6 := hml
  have K : oKp h0 h0 [xs] [] := oKp.nil _ _
  refine oWk.cast (g' := (mkF m 0 #[rv xs, rv xa, iv 0, iv 1, .val .null, uu] [])) (by first | rfl | (simp [entryFrame, mkF, argsToLocals, Value.category]; done)) ?_
  refine oWk.st (fun _ kt => zA X hx hby d5_0 rfl rfl rfl kt) ?_
  obtain ⟨T, X, e0, st⟩ := initO X hx hZ hown (oW hw 24 rfl) (oW hw 25 rfl) (oW hw 26 rfl) e0 (g := (mkF m 1 #[rv xs, rv xa, iv 0, iv 1, .val .null, uu] [(.ref xs)])) rfl (by rw [hml]; rfl) rfl (hb hby d5_1) (by decide) (W := 0) (Nat.le_of_eq rfl) (by decide)
  refine oWk.st (fun _ kt => st _ (zI X hx hby d5_4 rfl rfl (zF X hx hby d5_5 rfl rfl ((if0 _ _).trans (feq (by decide)).2) (pc' := 27) rfl kt))) ?_
  have Oh := K.old O0 (allS og_xs all0)
  obtain ⟨T, X, e0, st⟩ := getS2 X hx hZ hown (host := "") (Or.inl (oW hw 49 rfl)) Via.refl e0 (S_Z.ext Oh) (g := (mkF m 27 #[rv xs, rv xa, iv 0, iv 1, .val .null, uu] [])) rfl (hb hby d5_27)
  refine oWk.st (fun _ kt => st _ (zH X hx hby d5_30 rfl rfl ((if0 _ _).trans (feq hz).1) (zA X hx hby d5_33 rfl rfl rfl (zI X hx hby d5_34 rfl rfl (zI X hx hby d5_35 rfl rfl kt))))) ?_
  have lt_xs := E_xs.lt
  have lt_xa := V_xa.lt
  obtain ⟨_, T, h, Lc2, X, e0, hQ, st⟩ := (cs17 hw).run X hx hZ hown e0 (A := [(.ref xa), (.int (0 : Int32)), (.int (1 : Int32))]) rfl (rC3U_1 l Z a0 hw [] xa xk xc0 h0 Oh S_A S_H S_L V_xa hr0 hU) (W := 0) (by decide) hml (Ls := #[rv xs, rv xa, iv 0, iv 1, .val .null, uu]) rfl (rest := []) rfl rfl hby d5_36
  obtain ⟨nb1, nk1, rfl, K1, gn_nb1, V_nb1⟩ := hQ
  have ge_nb1 := Nat.le_trans K.le gn_nb1
  have ne_xs_nb1 : xs ≠ nb1 := Nat.ne_of_lt (Nat.lt_of_lt_of_le lt_xs gn_nb1)
  have ne_xa_nb1 : xa ≠ nb1 := Nat.ne_of_lt (Nat.lt_of_lt_of_le lt_xa gn_nb1)
  have K := K.call K1 all0
  refine oWk.st (fun _ kt => st _ (zT X hx hby d5_39 rfl rfl rfl (l' := #[rv xs, rv xa, iv 0, iv 1, .val .null, rv nb1]) rfl (zA X hx hby d5_41 rfl rfl rfl (zB X hx hby d5_42 rfl rfl rfl (zI X hx hby d5_44 rfl rfl kt))))) ?_
  have Oh := K.old O0 (allS og_xs all0)
  obtain ⟨T, L4, X, e0, K, st⟩ := (cs18 hw).pure X hx hZ hown e0 K (A := [(.ref nb1), (.int (1 : Int32))]) rfl (rCoU_1 l Z a0 hw [] nb1 nk1 xc0 h Oh V_nb1) (W := 1) (by decide) hml (Ls := #[rv xs, rv xa, iv 0, iv 1, .val .null, rv nb1]) rfl (rest := [(.ref xs)]) rfl rfl hby d5_45
  refine oWk.st (fun _ kt => st _ kt) ?_
  have E_xs := (E_xs.keep K1.1)
  have F_coder_xs := (F_coder_xs.keep K1.1 nin0)
  obtain ⟨T, h, X, e0, W5, st⟩ := putFN X hx hZ hown (oW hw 34 rfl) Via.refl e0 F_coder_xs E_xs (Or.inr ⟨(oW hw 30 rfl), rfl, hnm⟩) (oW hw 15 rfl) (ty := .byte) (v' := .int (1 : Int32)) (by decide) rfl (by decide) (g := (mkF m 48 #[rv xs, rv xa, iv 0, iv 1, .val .null, rv nb1] [(.int 1), (.ref xs)])) rfl rfl (hb hby d5_48)
  have K := K.wr W5 (Or.inl (List.mem_of_getElem? (i := 0) rfl))
  have F_coder_xs := F_coder_xs.same W5
  refine oWk.st (fun _ kt => st _ (zA X hx hby d5_51 rfl rfl rfl (zB X hx hby d5_52 rfl rfl rfl kt))) ?_
  have E_xs := (E_xs.wr W5)
  have F_value_xs := ((F_value_xs.keep K1.1 nin0).other W5 (Or.inr (slot_ne (Or.inr (oW hw 29 rfl)) (Or.inr (oW hw 30 rfl)) (by decide) (t := (.array .byte)) (t' := .byte) (by decide) (by decide))))
  obtain ⟨T, h, X, e0, W6, st⟩ := putF X hx hZ hown (host := "") (Or.inl (oW hw 33 rfl)) Via.refl e0 F_value_xs E_xs (Or.inr ⟨(oW hw 29 rfl), rfl, hnm⟩) (oW hw 15 rfl) (ty := (.array .byte)) (by decide) rfl rfl (g := (mkF m 54 #[rv xs, rv xa, iv 0, iv 1, .val .null, rv nb1] [(.ref nb1), (.ref xs)])) rfl rfl (hb hby d5_54)
  have K := K.wr W6 (Or.inl (List.mem_of_getElem? (i := 0) rfl))
  have F_value_xs := F_value_xs.same W6
  refine oWk.to (mkF m 57 #[rv xs, rv xa, iv 0, iv 1, .val .null, rv nb1] []) (fun _ kt => st _ kt) ?_
  have E_xs := (E_xs.wr W6)
  have F_coder_xs := (F_coder_xs.other W6 (Or.inr (slot_ne (Or.inr (oW hw 30 rfl)) (Or.inr (oW hw 29 rfl)) (by decide) (t := .byte) (t' := (.array .byte)) (by decide) (by decide))))
  have V_nb1 := ((V_nb1.other W5 (Ne.symm ne_xs_nb1)).other W6 (Ne.symm ne_xs_nb1))
  exact oRetV X hx hlk hret (hb hby d5_57) (by rw [e0]; exact ⟨nb1, nk1, rfl, K, E_xs, F_coder_xs, F_value_xs, ge_nb1, V_nb1⟩) (by decide) (by decide)
def Q_rI1U_1 (Z : State) (xs xa : Addr) (xk : ClassId) (xz : Int32) (xu xv : Value) (xc0 : Int32) (h0 : Heap) (v : Option Value) (h : Heap) (L : List Loc) : Prop := ∃ (nb : Addr) (nk : ClassId), v = none ∧ oKp h0 h [xs] L ∧ (Exa Z h xs Y0) ∧ (Fld Z h xs Y0 "coder" "B" (.int (1 : Int32))) ∧ (Fld Z h xs Y0 "value" "[B" (.ref nb)) ∧ (h0.size ≤ nb) ∧ (Arv Z h nb nk .byte (2 : Int32) [(iu0 xc0), (iu8 xc0)] (.int (0 : Int32)))
theorem rI1U_1 (l : Launch) (Z : State) (a0 : Array Value) (hw : oHW a0 Z) (ws : List Jvm.Cond) (xs xa : Addr) (xk : ClassId) (xz : Int32) (xu xv : Value) (xc0 : Int32) (h0 : Heap) (O0 : Ext Z.heap h0) (S_Z : Sta Z Z.heap Y0 Y2 "Z" (.int xz)) (hz : ¬ xz = (0 : Int32)) (S_A : Sta Z Z.heap Y1 Y3 "Z" (.int (1 : Int32))) (S_H : Sta Z Z.heap Y1 "HI_BYTE_SHIFT" "I" (.int (0 : Int32))) (S_L : Sta Z Z.heap Y1 "LO_BYTE_SHIFT" "I" (.int (8 : Int32))) (og_xs : Z.heap.size ≤ xs) (E_xs : Exa Z h0 xs Y0) (F_value_xs : Fld Z h0 xs Y0 "value" "[B" xu) (F_coder_xs : Fld Z h0 xs Y0 "coder" "B" xv) (V_xa : Arv Z h0 xa xk .char (1 : Int32) [(.int xc0)] (.int (0 : Int32))) (hr0 : 0 ≤ xc0.toInt ∧ xc0.toInt < 65536) (hU : ((255 : Int32) < xc0)) :
    oCon l Z yy18 jdk_42_method_3_code 2 none ws ({ frames := 5, cells := 2, slots := 3, locals := 74 } : Room) #[(.ref xs), (.ref xa)] h0 (Q_rI1U_1 Z xs xa xk xz xu xv xc0 h0) := by
  refine oCon.of (plainFor_of_name pn_0) ?_
  intro p e s m below meth c T X hx hby hml hown hnm hret hlk hZ e0
  have hml : c.maxLocals = 2 := hml
  have K : oKp h0 h0 [xs] [] := oKp.nil _ _
  refine oWk.cast (g' := (mkF m 0 #[rv xs, rv xa] [])) (by first | rfl | (simp [entryFrame, mkF, argsToLocals, Value.category]; done)) ?_
  refine oWk.st (fun _ kt => zA X hx hby d4_0 rfl rfl rfl (zA X hx hby d4_1 rfl rfl rfl (zK X hx hby d4_2 rfl (zA X hx hby d4_3 rfl rfl rfl (oAl X hx hZ e0 V_xa hby d4_4 rfl rfl (XS.aconstNull X.here hx rfl (hb hby d4_5) kt)))))) ?_
  have lt_xs := E_xs.lt
  have lt_xa := V_xa.lt
  have Oh := K.old O0 (allS og_xs all0)
  obtain ⟨_, T, h, Lc3, X, e0, hQ, st⟩ := (cs19 hw).run X hx hZ hown e0 (A := [(.ref xs), (.ref xa), (.int (0 : Int32)), (.int (1 : Int32)), .null]) ⟨rfl, _, _, rfl⟩ (rI4U_1 l Z a0 hw [] xs xa xk xz xu xv xc0 h0 Oh S_Z hz S_A S_H S_L og_xs E_xs F_value_xs F_coder_xs V_xa hr0 hU) (W := 0) (by decide) hml (Ls := #[rv xs, rv xa]) rfl (rest := []) rfl rfl hby d4_6
  obtain ⟨nb2, nk2, rfl, K2, E_xs, F_coder_xs, F_value_xs, gn_nb2, V_nb2⟩ := hQ
  have ge_nb2 := Nat.le_trans K.le gn_nb2
  have ne_xs_nb2 : xs ≠ nb2 := Nat.ne_of_lt (Nat.lt_of_lt_of_le lt_xs gn_nb2)
  have ne_xa_nb2 : xa ≠ nb2 := Nat.ne_of_lt (Nat.lt_of_lt_of_le lt_xa gn_nb2)
  have K := K.call K2 (allS (Or.inl (List.mem_of_getElem? (i := 0) rfl)) all0)
  refine oWk.to (mkF m 9 #[rv xs, rv xa] []) (fun _ kt => st _ kt) ?_
  exact oRetV X hx hlk hret (hb hby d4_9) (by rw [e0]; exact ⟨nb2, nk2, rfl, K, E_xs, F_coder_xs, F_value_xs, ge_nb2, V_nb2⟩) (by decide) (by decide)
def Q_rC5U_2_0 (Z : State) (xa xd : Addr) (xk xl : ClassId) (xc0 xc1 : Int32) (h0 : Heap) (v : Option Value) (h : Heap) (L : List Loc) : Prop := v = some (.int (0 : Int32)) ∧ oKp h0 h [xd] L
theorem rC5U_2_0 (l : Launch) (Z : State) (a0 : Array Value) (hw : oHW a0 Z) (ws : List Jvm.Cond) (xa xd : Addr) (xk xl : ClassId) (xc0 xc1 : Int32) (h0 : Heap) (O0 : Ext Z.heap h0) (og_xd : Z.heap.size ≤ xd) (ne_xa_xd : xa ≠ xd) (V_xa : Arv Z h0 xa xk .char (2 : Int32) [(.int xc0), (.int xc1)] (.int (0 : Int32))) (V_xd : Arv Z h0 xd xl .byte (2 : Int32) [(.int (0 : Int32)), (.int (0 : Int32))] (.int (0 : Int32))) (hgt : (255 : Int32) < xc0) :
    oCon l Z yy19 jdk_52_method_21_code 7 (some .int) ws ({ frames := 0, cells := 0, slots := 0, locals := 0 } : Room) #[(.ref xa), (.int (0 : Int32)), (.ref xd), (.int (0 : Int32)), (.int (2 : Int32))] h0 (Q_rC5U_2_0 Z xa xd xk xl xc0 xc1 h0) := by
  refine oCon.of (plainFor_of_name pn_2) ?_
  intro p e s m below meth c T X hx hby hml hown hnm hret hlk hZ e0
  have hml : c.maxLocals = 7 := hml
  have K : oKp h0 h0 [xd] [] := oKp.nil _ _
  refine oWk.cast (g' := (mkF m 0 #[rv xa, iv 0, rv xd, iv 0, iv 2, uu, uu] [])) (by first | rfl | (simp [entryFrame, mkF, argsToLocals, Value.category]; done)) ?_
  refine oWk.to (mkF m 12 #[rv xa, iv 0, rv xd, iv 0, iv 2, iv 0, uu] [(.int 0), (.ref xa)]) (fun _ kt => zK X hx hby d16_0 rfl (zS X hx hby d16_1 rfl rfl (l' := #[rv xa, iv 0, rv xd, iv 0, iv 2, iv 0, uu]) rfl (zJ X hx hby d16_3 rfl rfl (zJ X hx hby d16_5 rfl rfl (zN X hx hby d16_7 rfl rfl (tlt (by decide)).2.1 (zA X hx hby d16_10 rfl rfl rfl (zI X hx hby d16_11 rfl rfl kt))))))) ?_
  refine oWk.to (mkF m 20 #[rv xa, iv 0, rv xd, iv 0, iv 2, iv 0, iv xc0] [(.int 255), (.int xc0)]) (fun _ kt => oLdC X hx hZ e0 V_xa (0 : Int32) (.int xc0) ⟨by decide, by decide⟩ rfl hby d16_12 rfl rfl (zS X hx hby d16_13 rfl rfl (l' := #[rv xa, iv 0, rv xd, iv 0, iv 2, iv 0, iv xc0]) rfl (zJ X hx hby d16_15 rfl rfl (zM X hx hby d16_17 rfl kt)))) ?_
  refine oWk.to (mkF m 25 #[rv xa, iv 0, rv xd, iv 0, iv 2, iv 0, iv xc0] [(.int 0)]) (fun _ kt => zN X hx hby d16_20 rfl rfl (tlt hgt).2.2.2 (zJ X hx hby d16_23 rfl rfl kt)) ?_
  exact oRetI X hx hlk hret (hb hby d16_25) (by rw [e0]; exact ⟨rfl, K⟩) (by decide) (by decide)
def Q_rC5U_2_1 (Z : State) (xa xd : Addr) (xk xl : ClassId) (xc0 xc1 : Int32) (h0 : Heap) (v : Option Value) (h : Heap) (L : List Loc) : Prop := v = some (.int (1 : Int32)) ∧ oKp h0 h [xd] L
theorem rC5U_2_1 (l : Launch) (Z : State) (a0 : Array Value) (hw : oHW a0 Z) (ws : List Jvm.Cond) (xa xd : Addr) (xk xl : ClassId) (xc0 xc1 : Int32) (h0 : Heap) (O0 : Ext Z.heap h0) (og_xd : Z.heap.size ≤ xd) (ne_xa_xd : xa ≠ xd) (V_xa : Arv Z h0 xa xk .char (2 : Int32) [(.int xc0), (.int xc1)] (.int (0 : Int32))) (V_xd : Arv Z h0 xd xl .byte (2 : Int32) [(.int (0 : Int32)), (.int (0 : Int32))] (.int (0 : Int32))) (hle0 : ¬ (255 : Int32) < xc0) (hgt : (255 : Int32) < xc1) :
    oCon l Z yy19 jdk_52_method_21_code 7 (some .int) ws ({ frames := 0, cells := 0, slots := 0, locals := 0 } : Room) #[(.ref xa), (.int (0 : Int32)), (.ref xd), (.int (0 : Int32)), (.int (2 : Int32))] h0 (Q_rC5U_2_1 Z xa xd xk xl xc0 xc1 h0) := by
  refine oCon.of (plainFor_of_name pn_2) ?_
  intro p e s m below meth c T X hx hby hml hown hnm hret hlk hZ e0
  have hml : c.maxLocals = 7 := hml
  have K : oKp h0 h0 [xd] [] := oKp.nil _ _
  refine oWk.cast (g' := (mkF m 0 #[rv xa, iv 0, rv xd, iv 0, iv 2, uu, uu] [])) (by first | rfl | (simp [entryFrame, mkF, argsToLocals, Value.category]; done)) ?_
  refine oWk.to (mkF m 12 #[rv xa, iv 0, rv xd, iv 0, iv 2, iv 0, uu] [(.int 0), (.ref xa)]) (fun _ kt => zK X hx hby d16_0 rfl (zS X hx hby d16_1 rfl rfl (l' := #[rv xa, iv 0, rv xd, iv 0, iv 2, iv 0, uu]) rfl (zJ X hx hby d16_3 rfl rfl (zJ X hx hby d16_5 rfl rfl (zN X hx hby d16_7 rfl rfl (tlt (by decide)).2.1 (zA X hx hby d16_10 rfl rfl rfl (zI X hx hby d16_11 rfl rfl kt))))))) ?_
  refine oWk.to (mkF m 20 #[rv xa, iv 0, rv xd, iv 0, iv 2, iv 0, iv xc0] [(.int 255), (.int xc0)]) (fun _ kt => oLdC X hx hZ e0 V_xa (0 : Int32) (.int xc0) ⟨by decide, by decide⟩ rfl hby d16_12 rfl rfl (zS X hx hby d16_13 rfl rfl (l' := #[rv xa, iv 0, rv xd, iv 0, iv 2, iv 0, iv xc0]) rfl (zJ X hx hby d16_15 rfl rfl (zM X hx hby d16_17 rfl kt)))) ?_
  refine oWk.to (mkF m 31 #[rv xa, iv 0, rv xd, iv 0, iv 2, iv 0, iv xc0] [(ib xc0), (.int 0), (.ref xd)]) (fun _ kt => zY X hx hby d16_20 rfl rfl (flt hle0).2.2.2 (pc' := 26) rfl (zA X hx hby d16_26 rfl rfl rfl (zI X hx hby d16_27 rfl rfl (zJ X hx hby d16_28 rfl rfl (XS.i2b X.here hx rfl (hb hby d16_30) rfl kt))))) ?_
  obtain ⟨cl2, Ar2, q2, Sz2, Nn2, Hs2, Ft2⟩ := id V_xd
  have hin2 : ¬ ((0 : Int32) < 0 ∨ cl2.slots.size ≤ ((0 : Int32)).toNatClampNeg) := inb_of Sz2 ⟨by decide, by decide⟩
  obtain ⟨T, h, X, e0, W2, st⟩ := stB X hx hZ e0 Ar2 (j := (0 : Int32)) hin2 (g := (mkF m 31 #[rv xa, iv 0, rv xd, iv 0, iv 2, iv 0, iv xc0] [(ib xc0), (.int 0), (.ref xd)])) rfl rfl (hb hby d16_31)
  have K := K.wr W2 (Or.inl (List.mem_of_getElem? (i := 0) rfl))
  have V_xd := Arv.set Ar2 q2 Sz2 Nn2 Hs2 Ft2 (fits_nar_byte _) W2 0 rfl (Nat.le_of_ble_eq_true rfl)
  rw [oB8 xc0] at V_xd
  replace V_xd : Arv Z h xd xl .byte (2 : Int32) [(ib xc0), (.int (0 : Int32))] (.int (0 : Int32)) := V_xd
  refine oWk.to (mkF m 7 #[rv xa, iv 1, rv xd, iv 1, iv 2, iv 1, iv xc0] [(.int 2), (.int 1)]) (fun _ kt => st _ (zC X hx hby d16_32 rfl rfl (l' := #[rv xa, iv ((0 : Int32) + (1 : Int32)), rv xd, iv 0, iv 2, iv 0, iv xc0]) rfl (zC X hx hby d16_35 rfl rfl (l' := #[rv xa, iv 1, rv xd, iv ((0 : Int32) + (1 : Int32)), iv 2, iv 0, iv xc0]) rfl (zC X hx hby d16_38 rfl rfl (l' := #[rv xa, iv 1, rv xd, iv 1, iv 2, iv ((0 : Int32) + (1 : Int32)), iv xc0]) rfl (zG X hx hby d16_41 rfl (pc' := 3) rfl (zJ X hx hby d16_3 rfl rfl (zJ X hx hby d16_5 rfl rfl kt))))))) ?_
  refine oWk.st (fun _ kt => zN X hx hby d16_7 rfl rfl (tlt (by decide)).2.1 (zA X hx hby d16_10 rfl rfl rfl (zI X hx hby d16_11 rfl rfl kt))) ?_
  have V_xa := (V_xa.other W2 ne_xa_xd)
  refine oWk.to (mkF m 20 #[rv xa, iv 1, rv xd, iv 1, iv 2, iv 1, iv xc1] [(.int 255), (.int xc1)]) (fun _ kt => oLdC X hx hZ e0 V_xa (1 : Int32) (.int xc1) ⟨by decide, by decide⟩ rfl hby d16_12 rfl rfl (zS X hx hby d16_13 rfl rfl (l' := #[rv xa, iv 1, rv xd, iv 1, iv 2, iv 1, iv xc1]) rfl (zJ X hx hby d16_15 rfl rfl (zM X hx hby d16_17 rfl kt)))) ?_
  refine oWk.to (mkF m 25 #[rv xa, iv 1, rv xd, iv 1, iv 2, iv 1, iv xc1] [(.int 1)]) (fun _ kt => zN X hx hby d16_20 rfl rfl (tlt hgt).2.2.2 (zJ X hx hby d16_23 rfl rfl kt)) ?_
  exact oRetI X hx hlk hret (hb hby d16_25) (by rw [e0]; exact ⟨rfl, K⟩) (by decide) (by decide)
theorem rNBL_2 (l : Launch) (Z : State) (a0 : Array Value) (hw : oHW a0 Z) (ws : List Jvm.Cond)  (h0 : Heap) (O0 : Ext Z.heap h0)  :
    oCon l Z yy22 jdk_52_method_3_code 1 (some .int) ws ({ frames := 0, cells := 0, slots := 0, locals := 0 } : Room) #[(.int (2 : Int32))] h0 (oPq (some (.int (4 : Int32))) h0) := by
  refine oCon.of (plainFor_of_name pn_2) ?_
  intro p e s m below meth c T X hx hby hml hown hnm hret hlk hZ e0
  have hml : c.maxLocals = 1 := hml
  have K : oKp h0 h0 [] [] := oKp.nil _ _
  refine oWk.cast (g' := (mkF m 0 #[iv 2] [])) (by first | rfl | (simp [entryFrame, mkF, argsToLocals, Value.category]; done)) ?_
  refine oWk.st (fun _ kt => zI X hx hby d20_0 rfl rfl (zF X hx hby d20_1 rfl rfl ((if0 _ _).trans (flt (by decide)).2.1) (pc' := 12) rfl (zI X hx hby d20_12 rfl rfl kt))) ?_
  refine oWk.to (mkF m 58 #[iv 2] [(.int 4)]) (fun _ kt => X.ldcI hx hown (mvT hZ (oW hw 89 rfl)) rfl (hb hby d20_13) (zY X hx hby d20_15 rfl rfl (tlt (by decide)).1 (pc' := 55) rfl (zI X hx hby d20_55 rfl rfl (zK X hx hby d20_56 rfl (XS.ishl X.here hx rfl (hb hby d20_57) rfl kt))))) ?_
  exact oRetI X hx hlk hret (hb hby d20_58) (by rw [e0]; exact ⟨rfl, rfl, K⟩) (by decide) (by decide)
def Q_rNBF_2 (Z : State)  (h0 : Heap) (v : Option Value) (h : Heap) (L : List Loc) : Prop := ∃ (nb : Addr) (nk : ClassId), v = some (.ref nb) ∧ oKp h0 h [] L ∧ (h0.size ≤ nb) ∧ (Arv Z h nb nk .byte (4 : Int32) [(.int (0 : Int32)), (.int (0 : Int32)), (.int (0 : Int32)), (.int (0 : Int32))] (.int (0 : Int32)))
theorem rNBF_2 (l : Launch) (Z : State) (a0 : Array Value) (hw : oHW a0 Z) (ws : List Jvm.Cond)  (h0 : Heap) (O0 : Ext Z.heap h0)  :
    oCon l Z yy23 jdk_52_method_2_code 1 (some (.array .byte)) ws ({ frames := 1, cells := 1, slots := 4, locals := 12 } : Room) #[(.int (2 : Int32))] h0 (Q_rNBF_2 Z  h0) := by
  refine oCon.of (plainFor_of_name pn_2) ?_
  intro p e s m below meth c T X hx hby hml hown hnm hret hlk hZ e0
  have hml : c.maxLocals = 1 := hml
  have K : oKp h0 h0 [] [] := oKp.nil _ _
  refine oWk.cast (g' := (mkF m 0 #[iv 2] [])) (by first | rfl | (simp [entryFrame, mkF, argsToLocals, Value.category]; done)) ?_
  refine oWk.st (fun _ kt => zI X hx hby d19_0 rfl rfl kt) ?_
  have Oh := K.old O0 all0
  obtain ⟨T, L2, X, e0, K, st⟩ := (cs20 hw).pure X hx hZ hown e0 K (A := [(.int (2 : Int32))]) rfl (rNBL_2 l Z a0 hw []  h0 Oh ) (W := 0) (by decide) hml (Ls := #[iv 2]) rfl (rest := []) rfl rfl hby d19_1
  refine oWk.st (fun _ kt => st _ kt) ?_
  obtain ⟨o3, g3⟩ : ∃ z, z = h0.size := ⟨_, rfl⟩
  have ge_o3 : h0.size ≤ o3 := Nat.le_trans K.le (Nat.le_of_eq g3.symm)
  obtain ⟨T, h, k3, X, e0, E3, A3, st⟩ := newP X hx hZ (oW hw 28 rfl) e0 (g := (mkF m 4 #[iv 2] [(.int 4)])) rfl (hb hby d19_4) rfl (by decide) (cap := 4) (by decide) (by decide) (by decide) (by decide)
  rw [← g3] at A3 st
  have K := K.ext E3
  have V_o3 : Arv Z h o3 k3 .byte (4 : Int32) [(.int (0 : Int32)), (.int (0 : Int32)), (.int (0 : Int32)), (.int (0 : Int32))] (.int (0 : Int32)) := (Arv.new A3 (by decide)).pad (pad_rep [] (.int (0 : Int32)) 4)
  refine oWk.to (mkF m 6 #[iv 2] [(.ref o3)]) (fun _ kt => st _ kt) ?_
  exact oRetA X hx hlk hret rfl rfl (hb hby d19_6) (by rw [e0]; exact ⟨o3, k3, rfl, K, ge_o3, V_o3⟩) (by decide) (by decide)
def Q_rPut_2_0 (Z : State) (xb : Addr) (xk : ClassId) (xp xy0 xy1 xy2 xy3 : Int32) (h0 : Heap) (v : Option Value) (h : Heap) (L : List Loc) : Prop := v = none ∧ oKp h0 h [xb] L ∧ (Arv Z h xb xk .byte (4 : Int32) [(iu0 xp), (iu8 xp), (.int xy2), (.int xy3)] (.int (0 : Int32)))
theorem rPut_2_0 (l : Launch) (Z : State) (a0 : Array Value) (hw : oHW a0 Z) (ws : List Jvm.Cond) (xb : Addr) (xk : ClassId) (xp xy0 xy1 xy2 xy3 : Int32) (h0 : Heap) (O0 : Ext Z.heap h0) (S_A : Sta Z Z.heap Y1 Y3 "Z" (.int (1 : Int32))) (S_H : Sta Z Z.heap Y1 "HI_BYTE_SHIFT" "I" (.int (0 : Int32))) (S_L : Sta Z Z.heap Y1 "LO_BYTE_SHIFT" "I" (.int (8 : Int32))) (og_xb : Z.heap.size ≤ xb) (V_xb : Arv Z h0 xb xk .byte (4 : Int32) [(.int xy0), (.int xy1), (.int xy2), (.int xy3)] (.int (0 : Int32))) :
    oCon l Z yy24 jdk_52_method_4_code 3 none ws ({ frames := 0, cells := 0, slots := 0, locals := 0 } : Room) #[(.ref xb), (.int (0 : Int32)), (.int xp)] h0 (Q_rPut_2_0 Z xb xk xp xy0 xy1 xy2 xy3 h0) := by
  refine oCon.of (plainFor_of_name pn_2) ?_
  intro p e s m below meth c T X hx hby hml hown hnm hret hlk hZ e0
  have hml : c.maxLocals = 3 := hml
  have K : oKp h0 h0 [xb] [] := oKp.nil _ _
  refine oWk.cast (g' := (mkF m 0 #[rv xb, iv 0, iv xp] [])) (by first | rfl | (simp [entryFrame, mkF, argsToLocals, Value.category]; done)) ?_
  have Oh := K.old O0 (allS og_xb all0)
  obtain ⟨T, X, e0, st⟩ := getS2 X hx hZ hown (host := "") (Or.inl (oW hw 93 rfl)) Via.refl e0 (S_A.ext Oh) (g := (mkF m 0 #[rv xb, iv 0, iv xp] [])) rfl (hb hby d21_0)
  refine oWk.to (mkF m 33 #[rv xb, iv 0, iv xp] [(.ref xb)]) (fun _ kt => st _ (zF X hx hby d21_3 rfl rfl ((if0 _ _).trans (feq (by decide)).2) (pc' := 28) rfl (zI X hx hby d21_28 rfl rfl (zK X hx hby d21_29 rfl (XS.ishl X.here hx rfl (hb hby d21_30) rfl (zSn X hx hby d21_31 rfl rfl (l' := #[rv xb, iv 0, iv xp]) rfl (zA X hx hby d21_32 rfl rfl rfl kt))))))) ?_
  refine oWk.st (fun _ kt => zI X hx hby d21_33 rfl rfl (zC X hx hby d21_34 rfl rfl (l' := #[rv xb, iv ((0 : Int32) + (1 : Int32)), iv xp]) rfl (zI X hx hby d21_37 rfl rfl kt))) ?_
  obtain ⟨T, X, e0, st⟩ := getS2 X hx hZ hown (host := "") (Or.inl (oW hw 94 rfl)) Via.refl e0 (S_H.ext Oh) (g := (mkF m 38 #[rv xb, iv 1, iv xp] [(.int xp), (.int 0), (.ref xb)])) rfl (hb hby d21_38)
  refine oWk.st (fun _ kt => st _ (XS.ishr X.here hx rfl (hb hby d21_41) rfl (XS.i2b X.here hx rfl (hb hby d21_42) rfl kt))) ?_
  obtain ⟨cl1, Ar1, q1, Sz1, Nn1, Hs1, Ft1⟩ := id V_xb
  have hin1 : ¬ ((0 : Int32) < 0 ∨ cl1.slots.size ≤ ((0 : Int32)).toNatClampNeg) := inb_of Sz1 ⟨by decide, by decide⟩
  obtain ⟨T, h, X, e0, W1, st⟩ := stB X hx hZ e0 Ar1 (j := (0 : Int32)) hin1 (g := (mkF m 43 #[rv xb, iv 1, iv xp] [(iu0 xp), (.int 0), (.ref xb)])) rfl rfl (hb hby d21_43)
  have K := K.wr W1 (Or.inl (List.mem_of_getElem? (i := 0) rfl))
  have V_xb := Arv.set Ar1 q1 Sz1 Nn1 Hs1 Ft1 (fits_nar_byte _) W1 0 rfl (Nat.le_of_ble_eq_true rfl)
  rw [oB8 (xp >>> ((0 : Int32) &&& 31))] at V_xb
  replace V_xb : Arv Z h xb xk .byte (4 : Int32) [(iu0 xp), (.int xy1), (.int xy2), (.int xy3)] (.int (0 : Int32)) := V_xb
  refine oWk.st (fun _ kt => st _ (zA X hx hby d21_44 rfl rfl rfl (zI X hx hby d21_45 rfl rfl (zI X hx hby d21_46 rfl rfl kt)))) ?_
  have Oh := K.old O0 (allS og_xb all0)
  obtain ⟨T, X, e0, st⟩ := getS2 X hx hZ hown (host := "") (Or.inl (oW hw 95 rfl)) Via.refl e0 (S_L.ext Oh) (g := (mkF m 47 #[rv xb, iv 1, iv xp] [(.int xp), (.int 1), (.ref xb)])) rfl (hb hby d21_47)
  refine oWk.st (fun _ kt => st _ (XS.ishr X.here hx rfl (hb hby d21_50) rfl (XS.i2b X.here hx rfl (hb hby d21_51) rfl kt))) ?_
  obtain ⟨cl2, Ar2, q2, Sz2, Nn2, Hs2, Ft2⟩ := id V_xb
  have hin2 : ¬ ((1 : Int32) < 0 ∨ cl2.slots.size ≤ ((1 : Int32)).toNatClampNeg) := inb_of Sz2 ⟨by decide, by decide⟩
  obtain ⟨T, h, X, e0, W2, st⟩ := stB X hx hZ e0 Ar2 (j := (1 : Int32)) hin2 (g := (mkF m 52 #[rv xb, iv 1, iv xp] [(iu8 xp), (.int 1), (.ref xb)])) rfl rfl (hb hby d21_52)
  have K := K.wr W2 (Or.inl (List.mem_of_getElem? (i := 0) rfl))
  have V_xb := Arv.set Ar2 q2 Sz2 Nn2 Hs2 Ft2 (fits_nar_byte _) W2 1 rfl (Nat.le_of_ble_eq_true rfl)
  rw [oB8 (xp >>> ((8 : Int32) &&& 31))] at V_xb
  replace V_xb : Arv Z h xb xk .byte (4 : Int32) [(iu0 xp), (iu8 xp), (.int xy2), (.int xy3)] (.int (0 : Int32)) := V_xb
  refine oWk.to (mkF m 53 #[rv xb, iv 1, iv xp] []) (fun _ kt => st _ kt) ?_
  exact oRetV X hx hlk hret (hb hby d21_53) (by rw [e0]; exact ⟨rfl, K, V_xb⟩) (by decide) (by decide)
def Q_rPut_2_1 (Z : State) (xb : Addr) (xk : ClassId) (xp xy0 xy1 xy2 xy3 : Int32) (h0 : Heap) (v : Option Value) (h : Heap) (L : List Loc) : Prop := v = none ∧ oKp h0 h [xb] L ∧ (Arv Z h xb xk .byte (4 : Int32) [(.int xy0), (.int xy1), (iu0 xp), (iu8 xp)] (.int (0 : Int32)))
theorem rPut_2_1 (l : Launch) (Z : State) (a0 : Array Value) (hw : oHW a0 Z) (ws : List Jvm.Cond) (xb : Addr) (xk : ClassId) (xp xy0 xy1 xy2 xy3 : Int32) (h0 : Heap) (O0 : Ext Z.heap h0) (S_A : Sta Z Z.heap Y1 Y3 "Z" (.int (1 : Int32))) (S_H : Sta Z Z.heap Y1 "HI_BYTE_SHIFT" "I" (.int (0 : Int32))) (S_L : Sta Z Z.heap Y1 "LO_BYTE_SHIFT" "I" (.int (8 : Int32))) (og_xb : Z.heap.size ≤ xb) (V_xb : Arv Z h0 xb xk .byte (4 : Int32) [(.int xy0), (.int xy1), (.int xy2), (.int xy3)] (.int (0 : Int32))) :
    oCon l Z yy24 jdk_52_method_4_code 3 none ws ({ frames := 0, cells := 0, slots := 0, locals := 0 } : Room) #[(.ref xb), (.int (1 : Int32)), (.int xp)] h0 (Q_rPut_2_1 Z xb xk xp xy0 xy1 xy2 xy3 h0) := by
  refine oCon.of (plainFor_of_name pn_2) ?_
  intro p e s m below meth c T X hx hby hml hown hnm hret hlk hZ e0
  have hml : c.maxLocals = 3 := hml
  have K : oKp h0 h0 [xb] [] := oKp.nil _ _
  refine oWk.cast (g' := (mkF m 0 #[rv xb, iv 1, iv xp] [])) (by first | rfl | (simp [entryFrame, mkF, argsToLocals, Value.category]; done)) ?_
  have Oh := K.old O0 (allS og_xb all0)
  obtain ⟨T, X, e0, st⟩ := getS2 X hx hZ hown (host := "") (Or.inl (oW hw 93 rfl)) Via.refl e0 (S_A.ext Oh) (g := (mkF m 0 #[rv xb, iv 1, iv xp] [])) rfl (hb hby d21_0)
  refine oWk.to (mkF m 33 #[rv xb, iv 2, iv xp] [(.ref xb)]) (fun _ kt => st _ (zF X hx hby d21_3 rfl rfl ((if0 _ _).trans (feq (by decide)).2) (pc' := 28) rfl (zI X hx hby d21_28 rfl rfl (zK X hx hby d21_29 rfl (XS.ishl X.here hx rfl (hb hby d21_30) rfl (zSn X hx hby d21_31 rfl rfl (l' := #[rv xb, iv 2, iv xp]) rfl (zA X hx hby d21_32 rfl rfl rfl kt))))))) ?_
  refine oWk.st (fun _ kt => zI X hx hby d21_33 rfl rfl (zC X hx hby d21_34 rfl rfl (l' := #[rv xb, iv ((2 : Int32) + (1 : Int32)), iv xp]) rfl (zI X hx hby d21_37 rfl rfl kt))) ?_
  obtain ⟨T, X, e0, st⟩ := getS2 X hx hZ hown (host := "") (Or.inl (oW hw 94 rfl)) Via.refl e0 (S_H.ext Oh) (g := (mkF m 38 #[rv xb, iv 3, iv xp] [(.int xp), (.int 2), (.ref xb)])) rfl (hb hby d21_38)
  refine oWk.st (fun _ kt => st _ (XS.ishr X.here hx rfl (hb hby d21_41) rfl (XS.i2b X.here hx rfl (hb hby d21_42) rfl kt))) ?_
  obtain ⟨cl1, Ar1, q1, Sz1, Nn1, Hs1, Ft1⟩ := id V_xb
  have hin1 : ¬ ((2 : Int32) < 0 ∨ cl1.slots.size ≤ ((2 : Int32)).toNatClampNeg) := inb_of Sz1 ⟨by decide, by decide⟩
  obtain ⟨T, h, X, e0, W1, st⟩ := stB X hx hZ e0 Ar1 (j := (2 : Int32)) hin1 (g := (mkF m 43 #[rv xb, iv 3, iv xp] [(iu0 xp), (.int 2), (.ref xb)])) rfl rfl (hb hby d21_43)
  have K := K.wr W1 (Or.inl (List.mem_of_getElem? (i := 0) rfl))
  have V_xb := Arv.set Ar1 q1 Sz1 Nn1 Hs1 Ft1 (fits_nar_byte _) W1 2 rfl (Nat.le_of_ble_eq_true rfl)
  rw [oB8 (xp >>> ((0 : Int32) &&& 31))] at V_xb
  replace V_xb : Arv Z h xb xk .byte (4 : Int32) [(.int xy0), (.int xy1), (iu0 xp), (.int xy3)] (.int (0 : Int32)) := V_xb
  refine oWk.st (fun _ kt => st _ (zA X hx hby d21_44 rfl rfl rfl (zI X hx hby d21_45 rfl rfl (zI X hx hby d21_46 rfl rfl kt)))) ?_
  have Oh := K.old O0 (allS og_xb all0)
  obtain ⟨T, X, e0, st⟩ := getS2 X hx hZ hown (host := "") (Or.inl (oW hw 95 rfl)) Via.refl e0 (S_L.ext Oh) (g := (mkF m 47 #[rv xb, iv 3, iv xp] [(.int xp), (.int 3), (.ref xb)])) rfl (hb hby d21_47)
  refine oWk.st (fun _ kt => st _ (XS.ishr X.here hx rfl (hb hby d21_50) rfl (XS.i2b X.here hx rfl (hb hby d21_51) rfl kt))) ?_
  obtain ⟨cl2, Ar2, q2, Sz2, Nn2, Hs2, Ft2⟩ := id V_xb
  have hin2 : ¬ ((3 : Int32) < 0 ∨ cl2.slots.size ≤ ((3 : Int32)).toNatClampNeg) := inb_of Sz2 ⟨by decide, by decide⟩
  obtain ⟨T, h, X, e0, W2, st⟩ := stB X hx hZ e0 Ar2 (j := (3 : Int32)) hin2 (g := (mkF m 52 #[rv xb, iv 3, iv xp] [(iu8 xp), (.int 3), (.ref xb)])) rfl rfl (hb hby d21_52)
  have K := K.wr W2 (Or.inl (List.mem_of_getElem? (i := 0) rfl))
  have V_xb := Arv.set Ar2 q2 Sz2 Nn2 Hs2 Ft2 (fits_nar_byte _) W2 3 rfl (Nat.le_of_ble_eq_true rfl)
  rw [oB8 (xp >>> ((8 : Int32) &&& 31))] at V_xb
  replace V_xb : Arv Z h xb xk .byte (4 : Int32) [(.int xy0), (.int xy1), (iu0 xp), (iu8 xp)] (.int (0 : Int32)) := V_xb
  refine oWk.to (mkF m 53 #[rv xb, iv 3, iv xp] []) (fun _ kt => st _ kt) ?_
  exact oRetV X hx hlk hret (hb hby d21_53) (by rw [e0]; exact ⟨rfl, K, V_xb⟩) (by decide) (by decide)
def Q_rTBU_2 (Z : State) (xa : Addr) (xk : ClassId) (xc0 xc1 : Int32) (h0 : Heap) (v : Option Value) (h : Heap) (L : List Loc) : Prop := ∃ (nb : Addr) (nk : ClassId), v = some (.ref nb) ∧ oKp h0 h [] L ∧ (h0.size ≤ nb) ∧ (Arv Z h nb nk .byte (4 : Int32) [(iu0 xc0), (iu8 xc0), (iu0 xc1), (iu8 xc1)] (.int (0 : Int32)))
theorem rTBU_2 (l : Launch) (Z : State) (a0 : Array Value) (hw : oHW a0 Z) (ws : List Jvm.Cond) (xa : Addr) (xk : ClassId) (xc0 xc1 : Int32) (h0 : Heap) (O0 : Ext Z.heap h0) (S_A : Sta Z Z.heap Y1 Y3 "Z" (.int (1 : Int32))) (S_H : Sta Z Z.heap Y1 "HI_BYTE_SHIFT" "I" (.int (0 : Int32))) (S_L : Sta Z Z.heap Y1 "LO_BYTE_SHIFT" "I" (.int (8 : Int32))) (V_xa : Arv Z h0 xa xk .char (2 : Int32) [(.int xc0), (.int xc1)] (.int (0 : Int32))) :
    oCon l Z yy25 jdk_52_method_14_code 5 (some (.array .byte)) ws ({ frames := 2, cells := 1, slots := 4, locals := 24 } : Room) #[(.ref xa), (.int (0 : Int32)), (.int (2 : Int32))] h0 (Q_rTBU_2 Z xa xk xc0 xc1 h0) := by
  refine oCon.of (plainFor_of_name pn_2) ?_
  intro p e s m below meth c T X hx hby hml hown hnm hret hlk hZ e0
  have hml : c.maxLocals = 5 := hml
  have K : oKp h0 h0 [] [] := oKp.nil _ _
  refine oWk.cast (g' := (mkF m 0 #[rv xa, iv 0, iv 2, uu, uu] [])) (by first | rfl | (simp [entryFrame, mkF, argsToLocals, Value.category]; done)) ?_
  refine oWk.st (fun _ kt => zI X hx hby d18_0 rfl rfl kt) ?_
  have lt_xa := V_xa.lt
  have Oh := K.old O0 all0
  obtain ⟨_, T, h, Lc2, X, e0, hQ, st⟩ := (cs21 hw).run X hx hZ hown e0 (A := [(.int (2 : Int32))]) rfl (rNBF_2 l Z a0 hw []  h0 Oh ) (W := 0) (by decide) hml (Ls := #[rv xa, iv 0, iv 2, uu, uu]) rfl (rest := []) rfl rfl hby d18_1
  obtain ⟨nb1, nk1, rfl, K1, gn_nb1, V_nb1⟩ := hQ
  have ge_nb1 := Nat.le_trans K.le gn_nb1
  have ne_xa_nb1 : xa ≠ nb1 := Nat.ne_of_lt (Nat.lt_of_lt_of_le lt_xa gn_nb1)
  have K := K.call K1 all0
  refine oWk.to (mkF m 14 #[rv xa, iv 0, iv 2, rv nb1, iv 0] []) (fun _ kt => st _ (zTn X hx hby d18_4 rfl rfl rfl (l' := #[rv xa, iv 0, iv 2, rv nb1, uu]) rfl (zK X hx hby d18_5 rfl (zS X hx hby d18_6 rfl rfl (l' := #[rv xa, iv 0, iv 2, rv nb1, iv 0]) rfl (zJ X hx hby d18_8 rfl rfl (zI X hx hby d18_10 rfl rfl (zN X hx hby d18_11 rfl rfl (tlt (by decide)).2.1 kt))))))) ?_
  refine oWk.st (fun _ kt => zA X hx hby d18_14 rfl rfl rfl (zJ X hx hby d18_15 rfl rfl (zA X hx hby d18_17 rfl rfl rfl (zI X hx hby d18_18 rfl rfl kt)))) ?_
  have V_xa := (V_xa.keep K1.1 nin0)
  refine oWk.st (fun _ kt => oLdC X hx hZ e0 V_xa (0 : Int32) (.int xc0) ⟨by decide, by decide⟩ rfl hby d18_19 rfl rfl kt) ?_
  have Oh := K.old O0 all0
  obtain ⟨_, T, h, Lc5, X, e0, hQ, st⟩ := (cs22 hw).run X hx hZ hown e0 (A := [(.ref nb1), (.int (0 : Int32)), (.int xc0)]) rfl (rPut_2_0 l Z a0 hw [] nb1 nk1 xc0 (0 : Int32) (0 : Int32) (0 : Int32) (0 : Int32) h Oh S_A S_H S_L (Nat.le_trans O0.1 ge_nb1) V_nb1) (W := 0) (by decide) hml (Ls := #[rv xa, iv 0, iv 2, rv nb1, iv 0]) rfl (rest := []) rfl rfl hby d18_20
  obtain ⟨rfl, K4, V_nb1⟩ := hQ
  have K := K.call K4 (allS (Or.inr ge_nb1) all0)
  refine oWk.to (mkF m 14 #[rv xa, iv 1, iv 2, rv nb1, iv 1] []) (fun _ kt => st _ (zC X hx hby d18_23 rfl rfl (l' := #[rv xa, iv ((0 : Int32) + (1 : Int32)), iv 2, rv nb1, iv 0]) rfl (zC X hx hby d18_26 rfl rfl (l' := #[rv xa, iv 1, iv 2, rv nb1, iv ((0 : Int32) + (1 : Int32))]) rfl (zG X hx hby d18_29 rfl (pc' := 8) rfl (zJ X hx hby d18_8 rfl rfl (zI X hx hby d18_10 rfl rfl (zN X hx hby d18_11 rfl rfl (tlt (by decide)).2.1 kt))))))) ?_
  refine oWk.st (fun _ kt => zA X hx hby d18_14 rfl rfl rfl (zJ X hx hby d18_15 rfl rfl (zA X hx hby d18_17 rfl rfl rfl (zI X hx hby d18_18 rfl rfl kt)))) ?_
  have V_xa := (V_xa.keep K4.1 (ninS ne_xa_nb1 nin0))
  refine oWk.st (fun _ kt => oLdC X hx hZ e0 V_xa (1 : Int32) (.int xc1) ⟨by decide, by decide⟩ rfl hby d18_19 rfl rfl kt) ?_
  have Oh := K.old O0 all0
  obtain ⟨_, T, h, Lc8, X, e0, hQ, st⟩ := (cs22 hw).run X hx hZ hown e0 (A := [(.ref nb1), (.int (1 : Int32)), (.int xc1)]) rfl (rPut_2_1 l Z a0 hw [] nb1 nk1 xc1 ((xc0 >>> ((0 : Int32) &&& 31)).toInt8.toInt32) ((xc0 >>> ((8 : Int32) &&& 31)).toInt8.toInt32) (0 : Int32) (0 : Int32) h Oh S_A S_H S_L (Nat.le_trans O0.1 ge_nb1) V_nb1) (W := 0) (by decide) hml (Ls := #[rv xa, iv 1, iv 2, rv nb1, iv 1]) rfl (rest := []) rfl rfl hby d18_20
  obtain ⟨rfl, K7, V_nb1⟩ := hQ
  have K := K.call K7 (allS (Or.inr ge_nb1) all0)
  refine oWk.to (mkF m 32 #[rv xa, iv 2, iv 2, rv nb1, iv 2] []) (fun _ kt => st _ (zC X hx hby d18_23 rfl rfl (l' := #[rv xa, iv ((1 : Int32) + (1 : Int32)), iv 2, rv nb1, iv 1]) rfl (zC X hx hby d18_26 rfl rfl (l' := #[rv xa, iv 2, iv 2, rv nb1, iv ((1 : Int32) + (1 : Int32))]) rfl (zG X hx hby d18_29 rfl (pc' := 8) rfl (zJ X hx hby d18_8 rfl rfl (zI X hx hby d18_10 rfl rfl (zY X hx hby d18_11 rfl rfl (flt (by decide)).2.1 (pc' := 32) rfl kt))))))) ?_
  refine oWk.to (mkF m 33 #[rv xa, iv 2, iv 2, rv nb1, iv 2] [(.ref nb1)]) (fun _ kt => zA X hx hby d18_32 rfl rfl rfl kt) ?_
  exact oRetA X hx hlk hret rfl rfl (hb hby d18_33) (by rw [e0]; exact ⟨nb1, nk1, rfl, K, ge_nb1, V_nb1⟩) (by decide) (by decide)
def Q_rC3U_2 (Z : State) (xa : Addr) (xk : ClassId) (xc0 xc1 : Int32) (h0 : Heap) (v : Option Value) (h : Heap) (L : List Loc) : Prop := ∃ (nb : Addr) (nk : ClassId), v = some (.ref nb) ∧ oKp h0 h [] L ∧ (h0.size ≤ nb) ∧ (Arv Z h nb nk .byte (4 : Int32) [(iu0 xc0), (iu8 xc0), (iu0 xc1), (iu8 xc1)] (.int (0 : Int32)))
theorem rC3U_2 (l : Launch) (Z : State) (a0 : Array Value) (hw : oHW a0 Z) (ws : List Jvm.Cond) (xa : Addr) (xk : ClassId) (xc0 xc1 : Int32) (h0 : Heap) (O0 : Ext Z.heap h0) (S_A : Sta Z Z.heap Y1 Y3 "Z" (.int (1 : Int32))) (S_H : Sta Z Z.heap Y1 "HI_BYTE_SHIFT" "I" (.int (0 : Int32))) (S_L : Sta Z Z.heap Y1 "LO_BYTE_SHIFT" "I" (.int (8 : Int32))) (V_xa : Arv Z h0 xa xk .char (2 : Int32) [(.int xc0), (.int xc1)] (.int (0 : Int32))) (hr0 : 0 ≤ xc0.toInt ∧ xc0.toInt < 65536) (hr1 : 0 ≤ xc1.toInt ∧ xc1.toInt < 65536) (hU : ((255 : Int32) < xc0) ∨ (¬ (255 : Int32) < xc0 ∧ (255 : Int32) < xc1)) :
    oCon l Z yy20 jdk_52_method_16_code 6 (some (.array .byte)) ws ({ frames := 3, cells := 2, slots := 6, locals := 40 } : Room) #[(.ref xa), (.int (0 : Int32)), (.int (2 : Int32))] h0 (Q_rC3U_2 Z xa xk xc0 xc1 h0) := by
  refine oCon.of (plainFor_of_name pn_2) ?_
  intro p e s m below meth c T X hx hby hml hown hnm hret hlk hZ e0
  have hml : c.maxLocals = 6 := hml
  have K : oKp h0 h0 [] [] := oKp.nil _ _
  refine oWk.cast (g' := (mkF m 0 #[rv xa, iv 0, iv 2, uu, uu, uu] [])) (by first | rfl | (simp [entryFrame, mkF, argsToLocals, Value.category]; done)) ?_
  rcases hU with hgt | ⟨hle0, hgt⟩
  · show oWk _ _ _ _ T (mkF m 0 #[rv xa, iv 0, iv 2, uu, uu, uu] [])
    refine oWk.st (fun _ kt => zI X hx hby d15_0 rfl rfl kt) ?_
    obtain ⟨o1, g1⟩ : ∃ z, z = h0.size := ⟨_, rfl⟩
    have ne_xa_o1 : xa ≠ o1 := Nat.ne_of_lt (Nat.lt_of_lt_of_le V_xa.lt (Nat.le_of_eq g1.symm))
    have ge_o1 : h0.size ≤ o1 := Nat.le_trans K.le (Nat.le_of_eq g1.symm)
    obtain ⟨T, h, k1, X, e0, E1, A1, st⟩ := newP X hx hZ (oW hw 28 rfl) e0 (g := (mkF m 1 #[rv xa, iv 0, iv 2, uu, uu, uu] [(.int 2)])) rfl (hb hby d15_1) rfl (by decide) (cap := 2) (by decide) (by decide) (by decide) (by decide)
    rw [← g1] at A1 st
    have K := K.ext E1
    have V_o1 : Arv Z h o1 k1 .byte (2 : Int32) [(.int (0 : Int32)), (.int (0 : Int32))] (.int (0 : Int32)) := (Arv.new A1 (by decide)).pad (pad_rep [] (.int (0 : Int32)) 2)
    refine oWk.to (mkF m 9 #[rv xa, iv 0, iv 2, rv o1, uu, uu] [(.int 2), (.int 0), (.ref o1), (.int 0), (.ref xa)]) (fun _ kt => st _ (zTn X hx hby d15_3 rfl rfl rfl (l' := #[rv xa, iv 0, iv 2, rv o1, uu, uu]) rfl (zA X hx hby d15_4 rfl rfl rfl (zI X hx hby d15_5 rfl rfl (zA X hx hby d15_6 rfl rfl rfl (zK X hx hby d15_7 rfl (zI X hx hby d15_8 rfl rfl kt))))))) ?_
    have V_xa := (V_xa.ext E1)
    have Oh := K.old O0 all0
    obtain ⟨_, T, h, Lc3, X, e0, hQ, st⟩ := (cs16 hw).run X hx hZ hown e0 (A := [(.ref xa), (.int (0 : Int32)), (.ref o1), (.int (0 : Int32)), (.int (2 : Int32))]) rfl (rC5U_2_0 l Z a0 hw [] xa o1 xk k1 xc0 xc1 h Oh (Nat.le_trans O0.1 ge_o1) ne_xa_o1 V_xa V_o1 hgt) (W := 0) (by decide) hml (Ls := #[rv xa, iv 0, iv 2, rv o1, uu, uu]) rfl (rest := []) rfl rfl hby d15_9
    obtain ⟨rfl, K2⟩ := hQ
    have K := K.call K2 (allS (Or.inr ge_o1) all0)
    refine oWk.to (mkF m 22 #[rv xa, iv 0, iv 2, rv o1, iv 0, uu] [(.int 0), (.ref xa)]) (fun _ kt => st _ (zS X hx hby d15_12 rfl rfl (l' := #[rv xa, iv 0, iv 2, rv o1, iv 0, uu]) rfl (zJ X hx hby d15_14 rfl rfl (zI X hx hby d15_16 rfl rfl (zN X hx hby d15_17 rfl rfl (feq (by decide)).1 (zA X hx hby d15_20 rfl rfl rfl (zI X hx hby d15_21 rfl rfl kt))))))) ?_
    refine oWk.st (fun _ kt => zI X hx hby d15_22 rfl rfl kt) ?_
    have V_xa := (V_xa.keep K2.1 (ninS ne_xa_o1 nin0))
    have lt_xa := V_xa.lt
    have Oh := K.old O0 all0
    obtain ⟨_, T, h, Lc5, X, e0, hQ, st⟩ := (cs23 hw).run X hx hZ hown e0 (A := [(.ref xa), (.int (0 : Int32)), (.int (2 : Int32))]) rfl (rTBU_2 l Z a0 hw [] xa xk xc0 xc1 h Oh S_A S_H S_L V_xa) (W := 0) (by decide) hml (Ls := #[rv xa, iv 0, iv 2, rv o1, iv 0, uu]) rfl (rest := []) rfl rfl hby d15_23
    obtain ⟨nb4, nk4, rfl, K4, gn_nb4, V_nb4⟩ := hQ
    have ge_nb4 := Nat.le_trans K.le gn_nb4
    have ne_xa_nb4 : xa ≠ nb4 := Nat.ne_of_lt (Nat.lt_of_lt_of_le lt_xa gn_nb4)
    have K := K.call K4 all0
    refine oWk.st (fun _ kt => st _ (zT X hx hby d15_26 rfl rfl rfl (l' := #[rv xa, iv 0, iv 2, rv o1, iv 0, rv nb4]) rfl (zB X hx hby d15_28 rfl rfl rfl (zJ X hx hby d15_30 rfl rfl kt)))) ?_
    have Oh := K.old O0 all0
    obtain ⟨T, L7, X, e0, K, st⟩ := (cs5 hw).pure X hx hZ hown e0 K (A := [(.ref nb4), (.int (0 : Int32))]) rfl (rGC_2_0 l Z a0 hw [] nb4 nk4 xc0 xc1 h Oh S_A S_H S_L hr0 V_nb4) (W := 0) (by decide) hml (Ls := #[rv xa, iv 0, iv 2, rv o1, iv 0, rv nb4]) rfl (rest := []) rfl rfl hby d15_32
    refine oWk.to (mkF m 56 #[rv xa, iv 0, iv 2, rv o1, iv 0, rv nb4] [(.ref nb4)]) (fun _ kt => st _ (zM X hx hby d15_35 rfl (zY X hx hby d15_38 rfl rfl (tlt hgt).2.2.1 (pc' := 54) rfl (zB X hx hby d15_54 rfl rfl rfl kt)))) ?_
    exact oRetA X hx hlk hret rfl rfl (hb hby d15_56) (by rw [e0]; exact ⟨nb4, nk4, rfl, K, ge_nb4, V_nb4⟩) (by decide) (by decide)
  · show oWk _ _ _ _ T (mkF m 0 #[rv xa, iv 0, iv 2, uu, uu, uu] [])
    refine oWk.st (fun _ kt => zI X hx hby d15_0 rfl rfl kt) ?_
    obtain ⟨o8, g8⟩ : ∃ z, z = h0.size := ⟨_, rfl⟩
    have ne_xa_o8 : xa ≠ o8 := Nat.ne_of_lt (Nat.lt_of_lt_of_le V_xa.lt (Nat.le_of_eq g8.symm))
    have ge_o8 : h0.size ≤ o8 := Nat.le_trans K.le (Nat.le_of_eq g8.symm)
    obtain ⟨T, h, k8, X, e0, E8, A8, st⟩ := newP X hx hZ (oW hw 28 rfl) e0 (g := (mkF m 1 #[rv xa, iv 0, iv 2, uu, uu, uu] [(.int 2)])) rfl (hb hby d15_1) rfl (by decide) (cap := 2) (by decide) (by decide) (by decide) (by decide)
    rw [← g8] at A8 st
    have K := K.ext E8
    have V_o8 : Arv Z h o8 k8 .byte (2 : Int32) [(.int (0 : Int32)), (.int (0 : Int32))] (.int (0 : Int32)) := (Arv.new A8 (by decide)).pad (pad_rep [] (.int (0 : Int32)) 2)
    refine oWk.to (mkF m 9 #[rv xa, iv 0, iv 2, rv o8, uu, uu] [(.int 2), (.int 0), (.ref o8), (.int 0), (.ref xa)]) (fun _ kt => st _ (zTn X hx hby d15_3 rfl rfl rfl (l' := #[rv xa, iv 0, iv 2, rv o8, uu, uu]) rfl (zA X hx hby d15_4 rfl rfl rfl (zI X hx hby d15_5 rfl rfl (zA X hx hby d15_6 rfl rfl rfl (zK X hx hby d15_7 rfl (zI X hx hby d15_8 rfl rfl kt))))))) ?_
    have V_xa := (V_xa.ext E8)
    have Oh := K.old O0 all0
    obtain ⟨_, T, h, Lc10, X, e0, hQ, st⟩ := (cs16 hw).run X hx hZ hown e0 (A := [(.ref xa), (.int (0 : Int32)), (.ref o8), (.int (0 : Int32)), (.int (2 : Int32))]) rfl (rC5U_2_1 l Z a0 hw [] xa o8 xk k8 xc0 xc1 h Oh (Nat.le_trans O0.1 ge_o8) ne_xa_o8 V_xa V_o8 hle0 hgt) (W := 0) (by decide) hml (Ls := #[rv xa, iv 0, iv 2, rv o8, uu, uu]) rfl (rest := []) rfl rfl hby d15_9
    obtain ⟨rfl, K9⟩ := hQ
    have K := K.call K9 (allS (Or.inr ge_o8) all0)
    refine oWk.to (mkF m 22 #[rv xa, iv 0, iv 2, rv o8, iv 1, uu] [(.int 0), (.ref xa)]) (fun _ kt => st _ (zS X hx hby d15_12 rfl rfl (l' := #[rv xa, iv 0, iv 2, rv o8, iv 1, uu]) rfl (zJ X hx hby d15_14 rfl rfl (zI X hx hby d15_16 rfl rfl (zN X hx hby d15_17 rfl rfl (feq (by decide)).1 (zA X hx hby d15_20 rfl rfl rfl (zI X hx hby d15_21 rfl rfl kt))))))) ?_
    refine oWk.st (fun _ kt => zI X hx hby d15_22 rfl rfl kt) ?_
    have V_xa := (V_xa.keep K9.1 (ninS ne_xa_o8 nin0))
    have lt_xa := V_xa.lt
    have Oh := K.old O0 all0
    obtain ⟨_, T, h, Lc12, X, e0, hQ, st⟩ := (cs23 hw).run X hx hZ hown e0 (A := [(.ref xa), (.int (0 : Int32)), (.int (2 : Int32))]) rfl (rTBU_2 l Z a0 hw [] xa xk xc0 xc1 h Oh S_A S_H S_L V_xa) (W := 0) (by decide) hml (Ls := #[rv xa, iv 0, iv 2, rv o8, iv 1, uu]) rfl (rest := []) rfl rfl hby d15_23
    obtain ⟨nb11, nk11, rfl, K11, gn_nb11, V_nb11⟩ := hQ
    have ge_nb11 := Nat.le_trans K.le gn_nb11
    have ne_xa_nb11 : xa ≠ nb11 := Nat.ne_of_lt (Nat.lt_of_lt_of_le lt_xa gn_nb11)
    have K := K.call K11 all0
    refine oWk.st (fun _ kt => st _ (zT X hx hby d15_26 rfl rfl rfl (l' := #[rv xa, iv 0, iv 2, rv o8, iv 1, rv nb11]) rfl (zB X hx hby d15_28 rfl rfl rfl (zJ X hx hby d15_30 rfl rfl kt)))) ?_
    have Oh := K.old O0 all0
    obtain ⟨T, L14, X, e0, K, st⟩ := (cs5 hw).pure X hx hZ hown e0 K (A := [(.ref nb11), (.int (1 : Int32))]) rfl (rGC_2_1 l Z a0 hw [] nb11 nk11 xc0 xc1 h Oh S_A S_H S_L hr1 V_nb11) (W := 0) (by decide) hml (Ls := #[rv xa, iv 0, iv 2, rv o8, iv 1, rv nb11]) rfl (rest := []) rfl rfl hby d15_32
    refine oWk.to (mkF m 56 #[rv xa, iv 0, iv 2, rv o8, iv 1, rv nb11] [(.ref nb11)]) (fun _ kt => st _ (zM X hx hby d15_35 rfl (zY X hx hby d15_38 rfl rfl (tlt hgt).2.2.1 (pc' := 54) rfl (zB X hx hby d15_54 rfl rfl rfl kt)))) ?_
    exact oRetA X hx hlk hret rfl rfl (hb hby d15_56) (by rw [e0]; exact ⟨nb11, nk11, rfl, K, ge_nb11, V_nb11⟩) (by decide) (by decide)
theorem rCoU_2 (l : Launch) (Z : State) (a0 : Array Value) (hw : oHW a0 Z) (ws : List Jvm.Cond) (xb : Addr) (xk : ClassId) (xc0 xc1 : Int32) (h0 : Heap) (O0 : Ext Z.heap h0) (V_xb : Arv Z h0 xb xk .byte (4 : Int32) [(iu0 xc0), (iu8 xc0), (iu0 xc1), (iu8 xc1)] (.int (0 : Int32))) :
    oCon l Z yy21 jdk_52_method_15_code 2 (some .byte) ws ({ frames := 0, cells := 0, slots := 0, locals := 0 } : Room) #[(.ref xb), (.int (2 : Int32))] h0 (oPq (some (.int (1 : Int32))) h0) := by
  refine oCon.of (plainFor_of_name pn_2) ?_
  intro p e s m below meth c T X hx hby hml hown hnm hret hlk hZ e0
  have hml : c.maxLocals = 2 := hml
  have K : oKp h0 h0 [] [] := oKp.nil _ _
  refine oWk.cast (g' := (mkF m 0 #[rv xb, iv 2] [])) (by first | rfl | (simp [entryFrame, mkF, argsToLocals, Value.category]; done)) ?_
  refine oWk.to (mkF m 8 #[rv xb, iv 2] [(.int 1)]) (fun _ kt => zI X hx hby d17_0 rfl rfl (zA X hx hby d17_1 rfl rfl rfl (oAl X hx hZ e0 V_xb hby d17_2 rfl rfl (XS.isub X.here hx rfl (hb hby d17_3) rfl (zL X hx hby d17_4 rfl (XS.iushr X.here hx rfl (hb hby d17_6) rfl (XS.i2b X.here hx rfl (hb hby d17_7) rfl kt))))))) ?_
  exact oRetN X hx hlk hret (Or.inl rfl) rfl (hb hby d17_8) (by rw [e0]; exact ⟨rfl, rfl, K⟩) (by decide) (by decide)
def Q_rI4U_2 (Z : State) (xs xa : Addr) (xk : ClassId) (xz : Int32) (xu xv : Value) (xc0 xc1 : Int32) (h0 : Heap) (v : Option Value) (h : Heap) (L : List Loc) : Prop := ∃ (nb : Addr) (nk : ClassId), v = none ∧ oKp h0 h [xs] L ∧ (Exa Z h xs Y0) ∧ (Fld Z h xs Y0 "coder" "B" (.int (1 : Int32))) ∧ (Fld Z h xs Y0 "value" "[B" (.ref nb)) ∧ (h0.size ≤ nb) ∧ (Arv Z h nb nk .byte (4 : Int32) [(iu0 xc0), (iu8 xc0), (iu0 xc1), (iu8 xc1)] (.int (0 : Int32)))
theorem rI4U_2 (l : Launch) (Z : State) (a0 : Array Value) (hw : oHW a0 Z) (ws : List Jvm.Cond) (xs xa : Addr) (xk : ClassId) (xz : Int32) (xu xv : Value) (xc0 xc1 : Int32) (h0 : Heap) (O0 : Ext Z.heap h0) (S_Z : Sta Z Z.heap Y0 Y2 "Z" (.int xz)) (hz : ¬ xz = (0 : Int32)) (S_A : Sta Z Z.heap Y1 Y3 "Z" (.int (1 : Int32))) (S_H : Sta Z Z.heap Y1 "HI_BYTE_SHIFT" "I" (.int (0 : Int32))) (S_L : Sta Z Z.heap Y1 "LO_BYTE_SHIFT" "I" (.int (8 : Int32))) (og_xs : Z.heap.size ≤ xs) (E_xs : Exa Z h0 xs Y0) (F_value_xs : Fld Z h0 xs Y0 "value" "[B" xu) (F_coder_xs : Fld Z h0 xs Y0 "coder" "B" xv) (V_xa : Arv Z h0 xa xk .char (2 : Int32) [(.int xc0), (.int xc1)] (.int (0 : Int32))) (hr0 : 0 ≤ xc0.toInt ∧ xc0.toInt < 65536) (hr1 : 0 ≤ xc1.toInt ∧ xc1.toInt < 65536) (hU : ((255 : Int32) < xc0) ∨ (¬ (255 : Int32) < xc0 ∧ (255 : Int32) < xc1)) :
    oCon l Z yy17 jdk_42_method_149_code 6 none ws ({ frames := 4, cells := 2, slots := 6, locals := 57 } : Room) #[(.ref xs), (.ref xa), (.int (0 : Int32)), (.int (2 : Int32)), .null] h0 (Q_rI4U_2 Z xs xa xk xz xu xv xc0 xc1 h0) := by
  refine oCon.of (plainFor_of_name pn_0) ?_
  intro p e s m below meth c T X hx hby hml hown hnm hret hlk hZ e0
  have hml : c.maxLocals = 6 := hml
  have K : oKp h0 h0 [xs] [] := oKp.nil _ _
  refine oWk.cast (g' := (mkF m 0 #[rv xs, rv xa, iv 0, iv 2, .val .null, uu] [])) (by first | rfl | (simp [entryFrame, mkF, argsToLocals, Value.category]; done)) ?_
  refine oWk.st (fun _ kt => zA X hx hby d5_0 rfl rfl rfl kt) ?_
  obtain ⟨T, X, e0, st⟩ := initO X hx hZ hown (oW hw 24 rfl) (oW hw 25 rfl) (oW hw 26 rfl) e0 (g := (mkF m 1 #[rv xs, rv xa, iv 0, iv 2, .val .null, uu] [(.ref xs)])) rfl (by rw [hml]; rfl) rfl (hb hby d5_1) (by decide) (W := 0) (Nat.le_of_eq rfl) (by decide)
  refine oWk.st (fun _ kt => st _ (zI X hx hby d5_4 rfl rfl (zF X hx hby d5_5 rfl rfl ((if0 _ _).trans (feq (by decide)).2) (pc' := 27) rfl kt))) ?_
  have Oh := K.old O0 (allS og_xs all0)
  obtain ⟨T, X, e0, st⟩ := getS2 X hx hZ hown (host := "") (Or.inl (oW hw 49 rfl)) Via.refl e0 (S_Z.ext Oh) (g := (mkF m 27 #[rv xs, rv xa, iv 0, iv 2, .val .null, uu] [])) rfl (hb hby d5_27)
  refine oWk.st (fun _ kt => st _ (zH X hx hby d5_30 rfl rfl ((if0 _ _).trans (feq hz).1) (zA X hx hby d5_33 rfl rfl rfl (zI X hx hby d5_34 rfl rfl (zI X hx hby d5_35 rfl rfl kt))))) ?_
  have lt_xs := E_xs.lt
  have lt_xa := V_xa.lt
  obtain ⟨_, T, h, Lc2, X, e0, hQ, st⟩ := (cs17 hw).run X hx hZ hown e0 (A := [(.ref xa), (.int (0 : Int32)), (.int (2 : Int32))]) rfl (rC3U_2 l Z a0 hw [] xa xk xc0 xc1 h0 Oh S_A S_H S_L V_xa hr0 hr1 hU) (W := 0) (by decide) hml (Ls := #[rv xs, rv xa, iv 0, iv 2, .val .null, uu]) rfl (rest := []) rfl rfl hby d5_36
  obtain ⟨nb1, nk1, rfl, K1, gn_nb1, V_nb1⟩ := hQ
  have ge_nb1 := Nat.le_trans K.le gn_nb1
  have ne_xs_nb1 : xs ≠ nb1 := Nat.ne_of_lt (Nat.lt_of_lt_of_le lt_xs gn_nb1)
  have ne_xa_nb1 : xa ≠ nb1 := Nat.ne_of_lt (Nat.lt_of_lt_of_le lt_xa gn_nb1)
  have K := K.call K1 all0
  refine oWk.st (fun _ kt => st _ (zT X hx hby d5_39 rfl rfl rfl (l' := #[rv xs, rv xa, iv 0, iv 2, .val .null, rv nb1]) rfl (zA X hx hby d5_41 rfl rfl rfl (zB X hx hby d5_42 rfl rfl rfl (zI X hx hby d5_44 rfl rfl kt))))) ?_
  have Oh := K.old O0 (allS og_xs all0)
  obtain ⟨T, L4, X, e0, K, st⟩ := (cs18 hw).pure X hx hZ hown e0 K (A := [(.ref nb1), (.int (2 : Int32))]) rfl (rCoU_2 l Z a0 hw [] nb1 nk1 xc0 xc1 h Oh V_nb1) (W := 1) (by decide) hml (Ls := #[rv xs, rv xa, iv 0, iv 2, .val .null, rv nb1]) rfl (rest := [(.ref xs)]) rfl rfl hby d5_45
  refine oWk.st (fun _ kt => st _ kt) ?_
  have E_xs := (E_xs.keep K1.1)
  have F_coder_xs := (F_coder_xs.keep K1.1 nin0)
  obtain ⟨T, h, X, e0, W5, st⟩ := putFN X hx hZ hown (oW hw 34 rfl) Via.refl e0 F_coder_xs E_xs (Or.inr ⟨(oW hw 30 rfl), rfl, hnm⟩) (oW hw 15 rfl) (ty := .byte) (v' := .int (1 : Int32)) (by decide) rfl (by decide) (g := (mkF m 48 #[rv xs, rv xa, iv 0, iv 2, .val .null, rv nb1] [(.int 1), (.ref xs)])) rfl rfl (hb hby d5_48)
  have K := K.wr W5 (Or.inl (List.mem_of_getElem? (i := 0) rfl))
  have F_coder_xs := F_coder_xs.same W5
  refine oWk.st (fun _ kt => st _ (zA X hx hby d5_51 rfl rfl rfl (zB X hx hby d5_52 rfl rfl rfl kt))) ?_
  have E_xs := (E_xs.wr W5)
  have F_value_xs := ((F_value_xs.keep K1.1 nin0).other W5 (Or.inr (slot_ne (Or.inr (oW hw 29 rfl)) (Or.inr (oW hw 30 rfl)) (by decide) (t := (.array .byte)) (t' := .byte) (by decide) (by decide))))
  obtain ⟨T, h, X, e0, W6, st⟩ := putF X hx hZ hown (host := "") (Or.inl (oW hw 33 rfl)) Via.refl e0 F_value_xs E_xs (Or.inr ⟨(oW hw 29 rfl), rfl, hnm⟩) (oW hw 15 rfl) (ty := (.array .byte)) (by decide) rfl rfl (g := (mkF m 54 #[rv xs, rv xa, iv 0, iv 2, .val .null, rv nb1] [(.ref nb1), (.ref xs)])) rfl rfl (hb hby d5_54)
  have K := K.wr W6 (Or.inl (List.mem_of_getElem? (i := 0) rfl))
  have F_value_xs := F_value_xs.same W6
  refine oWk.to (mkF m 57 #[rv xs, rv xa, iv 0, iv 2, .val .null, rv nb1] []) (fun _ kt => st _ kt) ?_
  have E_xs := (E_xs.wr W6)
  have F_coder_xs := (F_coder_xs.other W6 (Or.inr (slot_ne (Or.inr (oW hw 30 rfl)) (Or.inr (oW hw 29 rfl)) (by decide) (t := .byte) (t' := (.array .byte)) (by decide) (by decide))))
  have V_nb1 := ((V_nb1.other W5 (Ne.symm ne_xs_nb1)).other W6 (Ne.symm ne_xs_nb1))
  exact oRetV X hx hlk hret (hb hby d5_57) (by rw [e0]; exact ⟨nb1, nk1, rfl, K, E_xs, F_coder_xs, F_value_xs, ge_nb1, V_nb1⟩) (by decide) (by decide)
def Q_rI1U_2 (Z : State) (xs xa : Addr) (xk : ClassId) (xz : Int32) (xu xv : Value) (xc0 xc1 : Int32) (h0 : Heap) (v : Option Value) (h : Heap) (L : List Loc) : Prop := ∃ (nb : Addr) (nk : ClassId), v = none ∧ oKp h0 h [xs] L ∧ (Exa Z h xs Y0) ∧ (Fld Z h xs Y0 "coder" "B" (.int (1 : Int32))) ∧ (Fld Z h xs Y0 "value" "[B" (.ref nb)) ∧ (h0.size ≤ nb) ∧ (Arv Z h nb nk .byte (4 : Int32) [(iu0 xc0), (iu8 xc0), (iu0 xc1), (iu8 xc1)] (.int (0 : Int32)))
theorem rI1U_2 (l : Launch) (Z : State) (a0 : Array Value) (hw : oHW a0 Z) (ws : List Jvm.Cond) (xs xa : Addr) (xk : ClassId) (xz : Int32) (xu xv : Value) (xc0 xc1 : Int32) (h0 : Heap) (O0 : Ext Z.heap h0) (S_Z : Sta Z Z.heap Y0 Y2 "Z" (.int xz)) (hz : ¬ xz = (0 : Int32)) (S_A : Sta Z Z.heap Y1 Y3 "Z" (.int (1 : Int32))) (S_H : Sta Z Z.heap Y1 "HI_BYTE_SHIFT" "I" (.int (0 : Int32))) (S_L : Sta Z Z.heap Y1 "LO_BYTE_SHIFT" "I" (.int (8 : Int32))) (og_xs : Z.heap.size ≤ xs) (E_xs : Exa Z h0 xs Y0) (F_value_xs : Fld Z h0 xs Y0 "value" "[B" xu) (F_coder_xs : Fld Z h0 xs Y0 "coder" "B" xv) (V_xa : Arv Z h0 xa xk .char (2 : Int32) [(.int xc0), (.int xc1)] (.int (0 : Int32))) (hr0 : 0 ≤ xc0.toInt ∧ xc0.toInt < 65536) (hr1 : 0 ≤ xc1.toInt ∧ xc1.toInt < 65536) (hU : ((255 : Int32) < xc0) ∨ (¬ (255 : Int32) < xc0 ∧ (255 : Int32) < xc1)) :
    oCon l Z yy18 jdk_42_method_3_code 2 none ws ({ frames := 5, cells := 2, slots := 6, locals := 74 } : Room) #[(.ref xs), (.ref xa)] h0 (Q_rI1U_2 Z xs xa xk xz xu xv xc0 xc1 h0) := by
  refine oCon.of (plainFor_of_name pn_0) ?_
  intro p e s m below meth c T X hx hby hml hown hnm hret hlk hZ e0
  have hml : c.maxLocals = 2 := hml
  have K : oKp h0 h0 [xs] [] := oKp.nil _ _
  refine oWk.cast (g' := (mkF m 0 #[rv xs, rv xa] [])) (by first | rfl | (simp [entryFrame, mkF, argsToLocals, Value.category]; done)) ?_
  refine oWk.st (fun _ kt => zA X hx hby d4_0 rfl rfl rfl (zA X hx hby d4_1 rfl rfl rfl (zK X hx hby d4_2 rfl (zA X hx hby d4_3 rfl rfl rfl (oAl X hx hZ e0 V_xa hby d4_4 rfl rfl (XS.aconstNull X.here hx rfl (hb hby d4_5) kt)))))) ?_
  have lt_xs := E_xs.lt
  have lt_xa := V_xa.lt
  have Oh := K.old O0 (allS og_xs all0)
  obtain ⟨_, T, h, Lc3, X, e0, hQ, st⟩ := (cs19 hw).run X hx hZ hown e0 (A := [(.ref xs), (.ref xa), (.int (0 : Int32)), (.int (2 : Int32)), .null]) ⟨rfl, _, _, rfl⟩ (rI4U_2 l Z a0 hw [] xs xa xk xz xu xv xc0 xc1 h0 Oh S_Z hz S_A S_H S_L og_xs E_xs F_value_xs F_coder_xs V_xa hr0 hr1 hU) (W := 0) (by decide) hml (Ls := #[rv xs, rv xa]) rfl (rest := []) rfl rfl hby d4_6
  obtain ⟨nb2, nk2, rfl, K2, E_xs, F_coder_xs, F_value_xs, gn_nb2, V_nb2⟩ := hQ
  have ge_nb2 := Nat.le_trans K.le gn_nb2
  have ne_xs_nb2 : xs ≠ nb2 := Nat.ne_of_lt (Nat.lt_of_lt_of_le lt_xs gn_nb2)
  have ne_xa_nb2 : xa ≠ nb2 := Nat.ne_of_lt (Nat.lt_of_lt_of_le lt_xa gn_nb2)
  have K := K.call K2 (allS (Or.inl (List.mem_of_getElem? (i := 0) rfl)) all0)
  refine oWk.to (mkF m 9 #[rv xs, rv xa] []) (fun _ kt => st _ kt) ?_
  exact oRetV X hx hlk hret (hb hby d4_9) (by rw [e0]; exact ⟨nb2, nk2, rfl, K, E_xs, F_coder_xs, F_value_xs, ge_nb2, V_nb2⟩) (by decide) (by decide)
def Q_rC5U_3_0 (Z : State) (xa xd : Addr) (xk xl : ClassId) (xc0 xc1 xc2 : Int32) (h0 : Heap) (v : Option Value) (h : Heap) (L : List Loc) : Prop := v = some (.int (0 : Int32)) ∧ oKp h0 h [xd] L
theorem rC5U_3_0 (l : Launch) (Z : State) (a0 : Array Value) (hw : oHW a0 Z) (ws : List Jvm.Cond) (xa xd : Addr) (xk xl : ClassId) (xc0 xc1 xc2 : Int32) (h0 : Heap) (O0 : Ext Z.heap h0) (og_xd : Z.heap.size ≤ xd) (ne_xa_xd : xa ≠ xd) (V_xa : Arv Z h0 xa xk .char (3 : Int32) [(.int xc0), (.int xc1), (.int xc2)] (.int (0 : Int32))) (V_xd : Arv Z h0 xd xl .byte (3 : Int32) [(.int (0 : Int32)), (.int (0 : Int32)), (.int (0 : Int32))] (.int (0 : Int32))) (hgt : (255 : Int32) < xc0) :
    oCon l Z yy19 jdk_52_method_21_code 7 (some .int) ws ({ frames := 0, cells := 0, slots := 0, locals := 0 } : Room) #[(.ref xa), (.int (0 : Int32)), (.ref xd), (.int (0 : Int32)), (.int (3 : Int32))] h0 (Q_rC5U_3_0 Z xa xd xk xl xc0 xc1 xc2 h0) := by
  refine oCon.of (plainFor_of_name pn_2) ?_
  intro p e s m below meth c T X hx hby hml hown hnm hret hlk hZ e0
  have hml : c.maxLocals = 7 := hml
  have K : oKp h0 h0 [xd] [] := oKp.nil _ _
  refine oWk.cast (g' := (mkF m 0 #[rv xa, iv 0, rv xd, iv 0, iv 3, uu, uu] [])) (by first | rfl | (simp [entryFrame, mkF, argsToLocals, Value.category]; done)) ?_
  refine oWk.to (mkF m 12 #[rv xa, iv 0, rv xd, iv 0, iv 3, iv 0, uu] [(.int 0), (.ref xa)]) (fun _ kt => zK X hx hby d16_0 rfl (zS X hx hby d16_1 rfl rfl (l' := #[rv xa, iv 0, rv xd, iv 0, iv 3, iv 0, uu]) rfl (zJ X hx hby d16_3 rfl rfl (zJ X hx hby d16_5 rfl rfl (zN X hx hby d16_7 rfl rfl (tlt (by decide)).2.1 (zA X hx hby d16_10 rfl rfl rfl (zI X hx hby d16_11 rfl rfl kt))))))) ?_
  refine oWk.to (mkF m 20 #[rv xa, iv 0, rv xd, iv 0, iv 3, iv 0, iv xc0] [(.int 255), (.int xc0)]) (fun _ kt => oLdC X hx hZ e0 V_xa (0 : Int32) (.int xc0) ⟨by decide, by decide⟩ rfl hby d16_12 rfl rfl (zS X hx hby d16_13 rfl rfl (l' := #[rv xa, iv 0, rv xd, iv 0, iv 3, iv 0, iv xc0]) rfl (zJ X hx hby d16_15 rfl rfl (zM X hx hby d16_17 rfl kt)))) ?_
  refine oWk.to (mkF m 25 #[rv xa, iv 0, rv xd, iv 0, iv 3, iv 0, iv xc0] [(.int 0)]) (fun _ kt => zN X hx hby d16_20 rfl rfl (tlt hgt).2.2.2 (zJ X hx hby d16_23 rfl rfl kt)) ?_
  exact oRetI X hx hlk hret (hb hby d16_25) (by rw [e0]; exact ⟨rfl, K⟩) (by decide) (by decide)
def Q_rC5U_3_1 (Z : State) (xa xd : Addr) (xk xl : ClassId) (xc0 xc1 xc2 : Int32) (h0 : Heap) (v : Option Value) (h : Heap) (L : List Loc) : Prop := v = some (.int (1 : Int32)) ∧ oKp h0 h [xd] L
theorem rC5U_3_1 (l : Launch) (Z : State) (a0 : Array Value) (hw : oHW a0 Z) (ws : List Jvm.Cond) (xa xd : Addr) (xk xl : ClassId) (xc0 xc1 xc2 : Int32) (h0 : Heap) (O0 : Ext Z.heap h0) (og_xd : Z.heap.size ≤ xd) (ne_xa_xd : xa ≠ xd) (V_xa : Arv Z h0 xa xk .char (3 : Int32) [(.int xc0), (.int xc1), (.int xc2)] (.int (0 : Int32))) (V_xd : Arv Z h0 xd xl .byte (3 : Int32) [(.int (0 : Int32)), (.int (0 : Int32)), (.int (0 : Int32))] (.int (0 : Int32))) (hle0 : ¬ (255 : Int32) < xc0) (hgt : (255 : Int32) < xc1) :
    oCon l Z yy19 jdk_52_method_21_code 7 (some .int) ws ({ frames := 0, cells := 0, slots := 0, locals := 0 } : Room) #[(.ref xa), (.int (0 : Int32)), (.ref xd), (.int (0 : Int32)), (.int (3 : Int32))] h0 (Q_rC5U_3_1 Z xa xd xk xl xc0 xc1 xc2 h0) := by
  refine oCon.of (plainFor_of_name pn_2) ?_
  intro p e s m below meth c T X hx hby hml hown hnm hret hlk hZ e0
  have hml : c.maxLocals = 7 := hml
  have K : oKp h0 h0 [xd] [] := oKp.nil _ _
  refine oWk.cast (g' := (mkF m 0 #[rv xa, iv 0, rv xd, iv 0, iv 3, uu, uu] [])) (by first | rfl | (simp [entryFrame, mkF, argsToLocals, Value.category]; done)) ?_
  refine oWk.to (mkF m 12 #[rv xa, iv 0, rv xd, iv 0, iv 3, iv 0, uu] [(.int 0), (.ref xa)]) (fun _ kt => zK X hx hby d16_0 rfl (zS X hx hby d16_1 rfl rfl (l' := #[rv xa, iv 0, rv xd, iv 0, iv 3, iv 0, uu]) rfl (zJ X hx hby d16_3 rfl rfl (zJ X hx hby d16_5 rfl rfl (zN X hx hby d16_7 rfl rfl (tlt (by decide)).2.1 (zA X hx hby d16_10 rfl rfl rfl (zI X hx hby d16_11 rfl rfl kt))))))) ?_
  refine oWk.to (mkF m 20 #[rv xa, iv 0, rv xd, iv 0, iv 3, iv 0, iv xc0] [(.int 255), (.int xc0)]) (fun _ kt => oLdC X hx hZ e0 V_xa (0 : Int32) (.int xc0) ⟨by decide, by decide⟩ rfl hby d16_12 rfl rfl (zS X hx hby d16_13 rfl rfl (l' := #[rv xa, iv 0, rv xd, iv 0, iv 3, iv 0, iv xc0]) rfl (zJ X hx hby d16_15 rfl rfl (zM X hx hby d16_17 rfl kt)))) ?_
  refine oWk.to (mkF m 31 #[rv xa, iv 0, rv xd, iv 0, iv 3, iv 0, iv xc0] [(ib xc0), (.int 0), (.ref xd)]) (fun _ kt => zY X hx hby d16_20 rfl rfl (flt hle0).2.2.2 (pc' := 26) rfl (zA X hx hby d16_26 rfl rfl rfl (zI X hx hby d16_27 rfl rfl (zJ X hx hby d16_28 rfl rfl (XS.i2b X.here hx rfl (hb hby d16_30) rfl kt))))) ?_
  obtain ⟨cl2, Ar2, q2, Sz2, Nn2, Hs2, Ft2⟩ := id V_xd
  have hin2 : ¬ ((0 : Int32) < 0 ∨ cl2.slots.size ≤ ((0 : Int32)).toNatClampNeg) := inb_of Sz2 ⟨by decide, by decide⟩
  obtain ⟨T, h, X, e0, W2, st⟩ := stB X hx hZ e0 Ar2 (j := (0 : Int32)) hin2 (g := (mkF m 31 #[rv xa, iv 0, rv xd, iv 0, iv 3, iv 0, iv xc0] [(ib xc0), (.int 0), (.ref xd)])) rfl rfl (hb hby d16_31)
  have K := K.wr W2 (Or.inl (List.mem_of_getElem? (i := 0) rfl))
  have V_xd := Arv.set Ar2 q2 Sz2 Nn2 Hs2 Ft2 (fits_nar_byte _) W2 0 rfl (Nat.le_of_ble_eq_true rfl)
  rw [oB8 xc0] at V_xd
  replace V_xd : Arv Z h xd xl .byte (3 : Int32) [(ib xc0), (.int (0 : Int32)), (.int (0 : Int32))] (.int (0 : Int32)) := V_xd
  refine oWk.to (mkF m 7 #[rv xa, iv 1, rv xd, iv 1, iv 3, iv 1, iv xc0] [(.int 3), (.int 1)]) (fun _ kt => st _ (zC X hx hby d16_32 rfl rfl (l' := #[rv xa, iv ((0 : Int32) + (1 : Int32)), rv xd, iv 0, iv 3, iv 0, iv xc0]) rfl (zC X hx hby d16_35 rfl rfl (l' := #[rv xa, iv 1, rv xd, iv ((0 : Int32) + (1 : Int32)), iv 3, iv 0, iv xc0]) rfl (zC X hx hby d16_38 rfl rfl (l' := #[rv xa, iv 1, rv xd, iv 1, iv 3, iv ((0 : Int32) + (1 : Int32)), iv xc0]) rfl (zG X hx hby d16_41 rfl (pc' := 3) rfl (zJ X hx hby d16_3 rfl rfl (zJ X hx hby d16_5 rfl rfl kt))))))) ?_
  refine oWk.st (fun _ kt => zN X hx hby d16_7 rfl rfl (tlt (by decide)).2.1 (zA X hx hby d16_10 rfl rfl rfl (zI X hx hby d16_11 rfl rfl kt))) ?_
  have V_xa := (V_xa.other W2 ne_xa_xd)
  refine oWk.to (mkF m 20 #[rv xa, iv 1, rv xd, iv 1, iv 3, iv 1, iv xc1] [(.int 255), (.int xc1)]) (fun _ kt => oLdC X hx hZ e0 V_xa (1 : Int32) (.int xc1) ⟨by decide, by decide⟩ rfl hby d16_12 rfl rfl (zS X hx hby d16_13 rfl rfl (l' := #[rv xa, iv 1, rv xd, iv 1, iv 3, iv 1, iv xc1]) rfl (zJ X hx hby d16_15 rfl rfl (zM X hx hby d16_17 rfl kt)))) ?_
  refine oWk.to (mkF m 25 #[rv xa, iv 1, rv xd, iv 1, iv 3, iv 1, iv xc1] [(.int 1)]) (fun _ kt => zN X hx hby d16_20 rfl rfl (tlt hgt).2.2.2 (zJ X hx hby d16_23 rfl rfl kt)) ?_
  exact oRetI X hx hlk hret (hb hby d16_25) (by rw [e0]; exact ⟨rfl, K⟩) (by decide) (by decide)
def Q_rC5U_3_2 (Z : State) (xa xd : Addr) (xk xl : ClassId) (xc0 xc1 xc2 : Int32) (h0 : Heap) (v : Option Value) (h : Heap) (L : List Loc) : Prop := v = some (.int (2 : Int32)) ∧ oKp h0 h [xd] L
theorem rC5U_3_2 (l : Launch) (Z : State) (a0 : Array Value) (hw : oHW a0 Z) (ws : List Jvm.Cond) (xa xd : Addr) (xk xl : ClassId) (xc0 xc1 xc2 : Int32) (h0 : Heap) (O0 : Ext Z.heap h0) (og_xd : Z.heap.size ≤ xd) (ne_xa_xd : xa ≠ xd) (V_xa : Arv Z h0 xa xk .char (3 : Int32) [(.int xc0), (.int xc1), (.int xc2)] (.int (0 : Int32))) (V_xd : Arv Z h0 xd xl .byte (3 : Int32) [(.int (0 : Int32)), (.int (0 : Int32)), (.int (0 : Int32))] (.int (0 : Int32))) (hle0 : ¬ (255 : Int32) < xc0) (hle1 : ¬ (255 : Int32) < xc1) (hgt : (255 : Int32) < xc2) :
    oCon l Z yy19 jdk_52_method_21_code 7 (some .int) ws ({ frames := 0, cells := 0, slots := 0, locals := 0 } : Room) #[(.ref xa), (.int (0 : Int32)), (.ref xd), (.int (0 : Int32)), (.int (3 : Int32))] h0 (Q_rC5U_3_2 Z xa xd xk xl xc0 xc1 xc2 h0) := by
  refine oCon.of (plainFor_of_name pn_2) ?_
  intro p e s m below meth c T X hx hby hml hown hnm hret hlk hZ e0
  have hml : c.maxLocals = 7 := hml
  have K : oKp h0 h0 [xd] [] := oKp.nil _ _
  refine oWk.cast (g' := (mkF m 0 #[rv xa, iv 0, rv xd, iv 0, iv 3, uu, uu] [])) (by first | rfl | (simp [entryFrame, mkF, argsToLocals, Value.category]; done)) ?_
  refine oWk.to (mkF m 12 #[rv xa, iv 0, rv xd, iv 0, iv 3, iv 0, uu] [(.int 0), (.ref xa)]) (fun _ kt => zK X hx hby d16_0 rfl (zS X hx hby d16_1 rfl rfl (l' := #[rv xa, iv 0, rv xd, iv 0, iv 3, iv 0, uu]) rfl (zJ X hx hby d16_3 rfl rfl (zJ X hx hby d16_5 rfl rfl (zN X hx hby d16_7 rfl rfl (tlt (by decide)).2.1 (zA X hx hby d16_10 rfl rfl rfl (zI X hx hby d16_11 rfl rfl kt))))))) ?_
  refine oWk.to (mkF m 20 #[rv xa, iv 0, rv xd, iv 0, iv 3, iv 0, iv xc0] [(.int 255), (.int xc0)]) (fun _ kt => oLdC X hx hZ e0 V_xa (0 : Int32) (.int xc0) ⟨by decide, by decide⟩ rfl hby d16_12 rfl rfl (zS X hx hby d16_13 rfl rfl (l' := #[rv xa, iv 0, rv xd, iv 0, iv 3, iv 0, iv xc0]) rfl (zJ X hx hby d16_15 rfl rfl (zM X hx hby d16_17 rfl kt)))) ?_
  refine oWk.to (mkF m 31 #[rv xa, iv 0, rv xd, iv 0, iv 3, iv 0, iv xc0] [(ib xc0), (.int 0), (.ref xd)]) (fun _ kt => zY X hx hby d16_20 rfl rfl (flt hle0).2.2.2 (pc' := 26) rfl (zA X hx hby d16_26 rfl rfl rfl (zI X hx hby d16_27 rfl rfl (zJ X hx hby d16_28 rfl rfl (XS.i2b X.here hx rfl (hb hby d16_30) rfl kt))))) ?_
  obtain ⟨cl2, Ar2, q2, Sz2, Nn2, Hs2, Ft2⟩ := id V_xd
  have hin2 : ¬ ((0 : Int32) < 0 ∨ cl2.slots.size ≤ ((0 : Int32)).toNatClampNeg) := inb_of Sz2 ⟨by decide, by decide⟩
  obtain ⟨T, h, X, e0, W2, st⟩ := stB X hx hZ e0 Ar2 (j := (0 : Int32)) hin2 (g := (mkF m 31 #[rv xa, iv 0, rv xd, iv 0, iv 3, iv 0, iv xc0] [(ib xc0), (.int 0), (.ref xd)])) rfl rfl (hb hby d16_31)
  have K := K.wr W2 (Or.inl (List.mem_of_getElem? (i := 0) rfl))
  have V_xd := Arv.set Ar2 q2 Sz2 Nn2 Hs2 Ft2 (fits_nar_byte _) W2 0 rfl (Nat.le_of_ble_eq_true rfl)
  rw [oB8 xc0] at V_xd
  replace V_xd : Arv Z h xd xl .byte (3 : Int32) [(ib xc0), (.int (0 : Int32)), (.int (0 : Int32))] (.int (0 : Int32)) := V_xd
  refine oWk.to (mkF m 7 #[rv xa, iv 1, rv xd, iv 1, iv 3, iv 1, iv xc0] [(.int 3), (.int 1)]) (fun _ kt => st _ (zC X hx hby d16_32 rfl rfl (l' := #[rv xa, iv ((0 : Int32) + (1 : Int32)), rv xd, iv 0, iv 3, iv 0, iv xc0]) rfl (zC X hx hby d16_35 rfl rfl (l' := #[rv xa, iv 1, rv xd, iv ((0 : Int32) + (1 : Int32)), iv 3, iv 0, iv xc0]) rfl (zC X hx hby d16_38 rfl rfl (l' := #[rv xa, iv 1, rv xd, iv 1, iv 3, iv ((0 : Int32) + (1 : Int32)), iv xc0]) rfl (zG X hx hby d16_41 rfl (pc' := 3) rfl (zJ X hx hby d16_3 rfl rfl (zJ X hx hby d16_5 rfl rfl kt))))))) ?_
  refine oWk.st (fun _ kt => zN X hx hby d16_7 rfl rfl (tlt (by decide)).2.1 (zA X hx hby d16_10 rfl rfl rfl (zI X hx hby d16_11 rfl rfl kt))) ?_
  have V_xa := (V_xa.other W2 ne_xa_xd)
  refine oWk.to (mkF m 20 #[rv xa, iv 1, rv xd, iv 1, iv 3, iv 1, iv xc1] [(.int 255), (.int xc1)]) (fun _ kt => oLdC X hx hZ e0 V_xa (1 : Int32) (.int xc1) ⟨by decide, by decide⟩ rfl hby d16_12 rfl rfl (zS X hx hby d16_13 rfl rfl (l' := #[rv xa, iv 1, rv xd, iv 1, iv 3, iv 1, iv xc1]) rfl (zJ X hx hby d16_15 rfl rfl (zM X hx hby d16_17 rfl kt)))) ?_
  refine oWk.to (mkF m 31 #[rv xa, iv 1, rv xd, iv 1, iv 3, iv 1, iv xc1] [(ib xc1), (.int 1), (.ref xd)]) (fun _ kt => zY X hx hby d16_20 rfl rfl (flt hle1).2.2.2 (pc' := 26) rfl (zA X hx hby d16_26 rfl rfl rfl (zI X hx hby d16_27 rfl rfl (zJ X hx hby d16_28 rfl rfl (XS.i2b X.here hx rfl (hb hby d16_30) rfl kt))))) ?_
  obtain ⟨cl4, Ar4, q4, Sz4, Nn4, Hs4, Ft4⟩ := id V_xd
  have hin4 : ¬ ((1 : Int32) < 0 ∨ cl4.slots.size ≤ ((1 : Int32)).toNatClampNeg) := inb_of Sz4 ⟨by decide, by decide⟩
  obtain ⟨T, h, X, e0, W4, st⟩ := stB X hx hZ e0 Ar4 (j := (1 : Int32)) hin4 (g := (mkF m 31 #[rv xa, iv 1, rv xd, iv 1, iv 3, iv 1, iv xc1] [(ib xc1), (.int 1), (.ref xd)])) rfl rfl (hb hby d16_31)
  have K := K.wr W4 (Or.inl (List.mem_of_getElem? (i := 0) rfl))
  have V_xd := Arv.set Ar4 q4 Sz4 Nn4 Hs4 Ft4 (fits_nar_byte _) W4 1 rfl (Nat.le_of_ble_eq_true rfl)
  rw [oB8 xc1] at V_xd
  replace V_xd : Arv Z h xd xl .byte (3 : Int32) [(ib xc0), (ib xc1), (.int (0 : Int32))] (.int (0 : Int32)) := V_xd
  refine oWk.to (mkF m 7 #[rv xa, iv 2, rv xd, iv 2, iv 3, iv 2, iv xc1] [(.int 3), (.int 2)]) (fun _ kt => st _ (zC X hx hby d16_32 rfl rfl (l' := #[rv xa, iv ((1 : Int32) + (1 : Int32)), rv xd, iv 1, iv 3, iv 1, iv xc1]) rfl (zC X hx hby d16_35 rfl rfl (l' := #[rv xa, iv 2, rv xd, iv ((1 : Int32) + (1 : Int32)), iv 3, iv 1, iv xc1]) rfl (zC X hx hby d16_38 rfl rfl (l' := #[rv xa, iv 2, rv xd, iv 2, iv 3, iv ((1 : Int32) + (1 : Int32)), iv xc1]) rfl (zG X hx hby d16_41 rfl (pc' := 3) rfl (zJ X hx hby d16_3 rfl rfl (zJ X hx hby d16_5 rfl rfl kt))))))) ?_
  refine oWk.st (fun _ kt => zN X hx hby d16_7 rfl rfl (tlt (by decide)).2.1 (zA X hx hby d16_10 rfl rfl rfl (zI X hx hby d16_11 rfl rfl kt))) ?_
  have V_xa := (V_xa.other W4 ne_xa_xd)
  refine oWk.to (mkF m 20 #[rv xa, iv 2, rv xd, iv 2, iv 3, iv 2, iv xc2] [(.int 255), (.int xc2)]) (fun _ kt => oLdC X hx hZ e0 V_xa (2 : Int32) (.int xc2) ⟨by decide, by decide⟩ rfl hby d16_12 rfl rfl (zS X hx hby d16_13 rfl rfl (l' := #[rv xa, iv 2, rv xd, iv 2, iv 3, iv 2, iv xc2]) rfl (zJ X hx hby d16_15 rfl rfl (zM X hx hby d16_17 rfl kt)))) ?_
  refine oWk.to (mkF m 25 #[rv xa, iv 2, rv xd, iv 2, iv 3, iv 2, iv xc2] [(.int 2)]) (fun _ kt => zN X hx hby d16_20 rfl rfl (tlt hgt).2.2.2 (zJ X hx hby d16_23 rfl rfl kt)) ?_
  exact oRetI X hx hlk hret (hb hby d16_25) (by rw [e0]; exact ⟨rfl, K⟩) (by decide) (by decide)
theorem rNBL_3 (l : Launch) (Z : State) (a0 : Array Value) (hw : oHW a0 Z) (ws : List Jvm.Cond)  (h0 : Heap) (O0 : Ext Z.heap h0)  :
    oCon l Z yy22 jdk_52_method_3_code 1 (some .int) ws ({ frames := 0, cells := 0, slots := 0, locals := 0 } : Room) #[(.int (3 : Int32))] h0 (oPq (some (.int (6 : Int32))) h0) := by
  refine oCon.of (plainFor_of_name pn_2) ?_
  intro p e s m below meth c T X hx hby hml hown hnm hret hlk hZ e0
  have hml : c.maxLocals = 1 := hml
  have K : oKp h0 h0 [] [] := oKp.nil _ _
  refine oWk.cast (g' := (mkF m 0 #[iv 3] [])) (by first | rfl | (simp [entryFrame, mkF, argsToLocals, Value.category]; done)) ?_
  refine oWk.st (fun _ kt => zI X hx hby d20_0 rfl rfl (zF X hx hby d20_1 rfl rfl ((if0 _ _).trans (flt (by decide)).2.1) (pc' := 12) rfl (zI X hx hby d20_12 rfl rfl kt))) ?_
  refine oWk.to (mkF m 58 #[iv 3] [(.int 6)]) (fun _ kt => X.ldcI hx hown (mvT hZ (oW hw 89 rfl)) rfl (hb hby d20_13) (zY X hx hby d20_15 rfl rfl (tlt (by decide)).1 (pc' := 55) rfl (zI X hx hby d20_55 rfl rfl (zK X hx hby d20_56 rfl (XS.ishl X.here hx rfl (hb hby d20_57) rfl kt))))) ?_
  exact oRetI X hx hlk hret (hb hby d20_58) (by rw [e0]; exact ⟨rfl, rfl, K⟩) (by decide) (by decide)
def Q_rNBF_3 (Z : State)  (h0 : Heap) (v : Option Value) (h : Heap) (L : List Loc) : Prop := ∃ (nb : Addr) (nk : ClassId), v = some (.ref nb) ∧ oKp h0 h [] L ∧ (h0.size ≤ nb) ∧ (Arv Z h nb nk .byte (6 : Int32) [(.int (0 : Int32)), (.int (0 : Int32)), (.int (0 : Int32)), (.int (0 : Int32)), (.int (0 : Int32)), (.int (0 : Int32))] (.int (0 : Int32)))
theorem rNBF_3 (l : Launch) (Z : State) (a0 : Array Value) (hw : oHW a0 Z) (ws : List Jvm.Cond)  (h0 : Heap) (O0 : Ext Z.heap h0)  :
    oCon l Z yy23 jdk_52_method_2_code 1 (some (.array .byte)) ws ({ frames := 1, cells := 1, slots := 6, locals := 12 } : Room) #[(.int (3 : Int32))] h0 (Q_rNBF_3 Z  h0) := by
  refine oCon.of (plainFor_of_name pn_2) ?_
  intro p e s m below meth c T X hx hby hml hown hnm hret hlk hZ e0
  have hml : c.maxLocals = 1 := hml
  have K : oKp h0 h0 [] [] := oKp.nil _ _
  refine oWk.cast (g' := (mkF m 0 #[iv 3] [])) (by first | rfl | (simp [entryFrame, mkF, argsToLocals, Value.category]; done)) ?_
  refine oWk.st (fun _ kt => zI X hx hby d19_0 rfl rfl kt) ?_
  have Oh := K.old O0 all0
  obtain ⟨T, L2, X, e0, K, st⟩ := (cs20 hw).pure X hx hZ hown e0 K (A := [(.int (3 : Int32))]) rfl (rNBL_3 l Z a0 hw []  h0 Oh ) (W := 0) (by decide) hml (Ls := #[iv 3]) rfl (rest := []) rfl rfl hby d19_1
  refine oWk.st (fun _ kt => st _ kt) ?_
  obtain ⟨o3, g3⟩ : ∃ z, z = h0.size := ⟨_, rfl⟩
  have ge_o3 : h0.size ≤ o3 := Nat.le_trans K.le (Nat.le_of_eq g3.symm)
  obtain ⟨T, h, k3, X, e0, E3, A3, st⟩ := newP X hx hZ (oW hw 28 rfl) e0 (g := (mkF m 4 #[iv 3] [(.int 6)])) rfl (hb hby d19_4) rfl (by decide) (cap := 6) (by decide) (by decide) (by decide) (by decide)
  rw [← g3] at A3 st
  have K := K.ext E3
  have V_o3 : Arv Z h o3 k3 .byte (6 : Int32) [(.int (0 : Int32)), (.int (0 : Int32)), (.int (0 : Int32)), (.int (0 : Int32)), (.int (0 : Int32)), (.int (0 : Int32))] (.int (0 : Int32)) := (Arv.new A3 (by decide)).pad (pad_rep [] (.int (0 : Int32)) 6)
  refine oWk.to (mkF m 6 #[iv 3] [(.ref o3)]) (fun _ kt => st _ kt) ?_
  exact oRetA X hx hlk hret rfl rfl (hb hby d19_6) (by rw [e0]; exact ⟨o3, k3, rfl, K, ge_o3, V_o3⟩) (by decide) (by decide)
def Q_rPut_3_0 (Z : State) (xb : Addr) (xk : ClassId) (xp xy0 xy1 xy2 xy3 xy4 xy5 : Int32) (h0 : Heap) (v : Option Value) (h : Heap) (L : List Loc) : Prop := v = none ∧ oKp h0 h [xb] L ∧ (Arv Z h xb xk .byte (6 : Int32) [(iu0 xp), (iu8 xp), (.int xy2), (.int xy3), (.int xy4), (.int xy5)] (.int (0 : Int32)))
theorem rPut_3_0 (l : Launch) (Z : State) (a0 : Array Value) (hw : oHW a0 Z) (ws : List Jvm.Cond) (xb : Addr) (xk : ClassId) (xp xy0 xy1 xy2 xy3 xy4 xy5 : Int32) (h0 : Heap) (O0 : Ext Z.heap h0) (S_A : Sta Z Z.heap Y1 Y3 "Z" (.int (1 : Int32))) (S_H : Sta Z Z.heap Y1 "HI_BYTE_SHIFT" "I" (.int (0 : Int32))) (S_L : Sta Z Z.heap Y1 "LO_BYTE_SHIFT" "I" (.int (8 : Int32))) (og_xb : Z.heap.size ≤ xb) (V_xb : Arv Z h0 xb xk .byte (6 : Int32) [(.int xy0), (.int xy1), (.int xy2), (.int xy3), (.int xy4), (.int xy5)] (.int (0 : Int32))) :
    oCon l Z yy24 jdk_52_method_4_code 3 none ws ({ frames := 0, cells := 0, slots := 0, locals := 0 } : Room) #[(.ref xb), (.int (0 : Int32)), (.int xp)] h0 (Q_rPut_3_0 Z xb xk xp xy0 xy1 xy2 xy3 xy4 xy5 h0) := by
  refine oCon.of (plainFor_of_name pn_2) ?_
  intro p e s m below meth c T X hx hby hml hown hnm hret hlk hZ e0
  have hml : c.maxLocals = 3 := hml
  have K : oKp h0 h0 [xb] [] := oKp.nil _ _
  refine oWk.cast (g' := (mkF m 0 #[rv xb, iv 0, iv xp] [])) (by first | rfl | (simp [entryFrame, mkF, argsToLocals, Value.category]; done)) ?_
  have Oh := K.old O0 (allS og_xb all0)
  obtain ⟨T, X, e0, st⟩ := getS2 X hx hZ hown (host := "") (Or.inl (oW hw 93 rfl)) Via.refl e0 (S_A.ext Oh) (g := (mkF m 0 #[rv xb, iv 0, iv xp] [])) rfl (hb hby d21_0)
  refine oWk.to (mkF m 33 #[rv xb, iv 0, iv xp] [(.ref xb)]) (fun _ kt => st _ (zF X hx hby d21_3 rfl rfl ((if0 _ _).trans (feq (by decide)).2) (pc' := 28) rfl (zI X hx hby d21_28 rfl rfl (zK X hx hby d21_29 rfl (XS.ishl X.here hx rfl (hb hby d21_30) rfl (zSn X hx hby d21_31 rfl rfl (l' := #[rv xb, iv 0, iv xp]) rfl (zA X hx hby d21_32 rfl rfl rfl kt))))))) ?_
  refine oWk.st (fun _ kt => zI X hx hby d21_33 rfl rfl (zC X hx hby d21_34 rfl rfl (l' := #[rv xb, iv ((0 : Int32) + (1 : Int32)), iv xp]) rfl (zI X hx hby d21_37 rfl rfl kt))) ?_
  obtain ⟨T, X, e0, st⟩ := getS2 X hx hZ hown (host := "") (Or.inl (oW hw 94 rfl)) Via.refl e0 (S_H.ext Oh) (g := (mkF m 38 #[rv xb, iv 1, iv xp] [(.int xp), (.int 0), (.ref xb)])) rfl (hb hby d21_38)
  refine oWk.st (fun _ kt => st _ (XS.ishr X.here hx rfl (hb hby d21_41) rfl (XS.i2b X.here hx rfl (hb hby d21_42) rfl kt))) ?_
  obtain ⟨cl1, Ar1, q1, Sz1, Nn1, Hs1, Ft1⟩ := id V_xb
  have hin1 : ¬ ((0 : Int32) < 0 ∨ cl1.slots.size ≤ ((0 : Int32)).toNatClampNeg) := inb_of Sz1 ⟨by decide, by decide⟩
  obtain ⟨T, h, X, e0, W1, st⟩ := stB X hx hZ e0 Ar1 (j := (0 : Int32)) hin1 (g := (mkF m 43 #[rv xb, iv 1, iv xp] [(iu0 xp), (.int 0), (.ref xb)])) rfl rfl (hb hby d21_43)
  have K := K.wr W1 (Or.inl (List.mem_of_getElem? (i := 0) rfl))
  have V_xb := Arv.set Ar1 q1 Sz1 Nn1 Hs1 Ft1 (fits_nar_byte _) W1 0 rfl (Nat.le_of_ble_eq_true rfl)
  rw [oB8 (xp >>> ((0 : Int32) &&& 31))] at V_xb
  replace V_xb : Arv Z h xb xk .byte (6 : Int32) [(iu0 xp), (.int xy1), (.int xy2), (.int xy3), (.int xy4), (.int xy5)] (.int (0 : Int32)) := V_xb
  refine oWk.st (fun _ kt => st _ (zA X hx hby d21_44 rfl rfl rfl (zI X hx hby d21_45 rfl rfl (zI X hx hby d21_46 rfl rfl kt)))) ?_
  have Oh := K.old O0 (allS og_xb all0)
  obtain ⟨T, X, e0, st⟩ := getS2 X hx hZ hown (host := "") (Or.inl (oW hw 95 rfl)) Via.refl e0 (S_L.ext Oh) (g := (mkF m 47 #[rv xb, iv 1, iv xp] [(.int xp), (.int 1), (.ref xb)])) rfl (hb hby d21_47)
  refine oWk.st (fun _ kt => st _ (XS.ishr X.here hx rfl (hb hby d21_50) rfl (XS.i2b X.here hx rfl (hb hby d21_51) rfl kt))) ?_
  obtain ⟨cl2, Ar2, q2, Sz2, Nn2, Hs2, Ft2⟩ := id V_xb
  have hin2 : ¬ ((1 : Int32) < 0 ∨ cl2.slots.size ≤ ((1 : Int32)).toNatClampNeg) := inb_of Sz2 ⟨by decide, by decide⟩
  obtain ⟨T, h, X, e0, W2, st⟩ := stB X hx hZ e0 Ar2 (j := (1 : Int32)) hin2 (g := (mkF m 52 #[rv xb, iv 1, iv xp] [(iu8 xp), (.int 1), (.ref xb)])) rfl rfl (hb hby d21_52)
  have K := K.wr W2 (Or.inl (List.mem_of_getElem? (i := 0) rfl))
  have V_xb := Arv.set Ar2 q2 Sz2 Nn2 Hs2 Ft2 (fits_nar_byte _) W2 1 rfl (Nat.le_of_ble_eq_true rfl)
  rw [oB8 (xp >>> ((8 : Int32) &&& 31))] at V_xb
  replace V_xb : Arv Z h xb xk .byte (6 : Int32) [(iu0 xp), (iu8 xp), (.int xy2), (.int xy3), (.int xy4), (.int xy5)] (.int (0 : Int32)) := V_xb
  refine oWk.to (mkF m 53 #[rv xb, iv 1, iv xp] []) (fun _ kt => st _ kt) ?_
  exact oRetV X hx hlk hret (hb hby d21_53) (by rw [e0]; exact ⟨rfl, K, V_xb⟩) (by decide) (by decide)
def Q_rPut_3_1 (Z : State) (xb : Addr) (xk : ClassId) (xp xy0 xy1 xy2 xy3 xy4 xy5 : Int32) (h0 : Heap) (v : Option Value) (h : Heap) (L : List Loc) : Prop := v = none ∧ oKp h0 h [xb] L ∧ (Arv Z h xb xk .byte (6 : Int32) [(.int xy0), (.int xy1), (iu0 xp), (iu8 xp), (.int xy4), (.int xy5)] (.int (0 : Int32)))
theorem rPut_3_1 (l : Launch) (Z : State) (a0 : Array Value) (hw : oHW a0 Z) (ws : List Jvm.Cond) (xb : Addr) (xk : ClassId) (xp xy0 xy1 xy2 xy3 xy4 xy5 : Int32) (h0 : Heap) (O0 : Ext Z.heap h0) (S_A : Sta Z Z.heap Y1 Y3 "Z" (.int (1 : Int32))) (S_H : Sta Z Z.heap Y1 "HI_BYTE_SHIFT" "I" (.int (0 : Int32))) (S_L : Sta Z Z.heap Y1 "LO_BYTE_SHIFT" "I" (.int (8 : Int32))) (og_xb : Z.heap.size ≤ xb) (V_xb : Arv Z h0 xb xk .byte (6 : Int32) [(.int xy0), (.int xy1), (.int xy2), (.int xy3), (.int xy4), (.int xy5)] (.int (0 : Int32))) :
    oCon l Z yy24 jdk_52_method_4_code 3 none ws ({ frames := 0, cells := 0, slots := 0, locals := 0 } : Room) #[(.ref xb), (.int (1 : Int32)), (.int xp)] h0 (Q_rPut_3_1 Z xb xk xp xy0 xy1 xy2 xy3 xy4 xy5 h0) := by
  refine oCon.of (plainFor_of_name pn_2) ?_
  intro p e s m below meth c T X hx hby hml hown hnm hret hlk hZ e0
  have hml : c.maxLocals = 3 := hml
  have K : oKp h0 h0 [xb] [] := oKp.nil _ _
  refine oWk.cast (g' := (mkF m 0 #[rv xb, iv 1, iv xp] [])) (by first | rfl | (simp [entryFrame, mkF, argsToLocals, Value.category]; done)) ?_
  have Oh := K.old O0 (allS og_xb all0)
  obtain ⟨T, X, e0, st⟩ := getS2 X hx hZ hown (host := "") (Or.inl (oW hw 93 rfl)) Via.refl e0 (S_A.ext Oh) (g := (mkF m 0 #[rv xb, iv 1, iv xp] [])) rfl (hb hby d21_0)
  refine oWk.to (mkF m 33 #[rv xb, iv 2, iv xp] [(.ref xb)]) (fun _ kt => st _ (zF X hx hby d21_3 rfl rfl ((if0 _ _).trans (feq (by decide)).2) (pc' := 28) rfl (zI X hx hby d21_28 rfl rfl (zK X hx hby d21_29 rfl (XS.ishl X.here hx rfl (hb hby d21_30) rfl (zSn X hx hby d21_31 rfl rfl (l' := #[rv xb, iv 2, iv xp]) rfl (zA X hx hby d21_32 rfl rfl rfl kt))))))) ?_
  refine oWk.st (fun _ kt => zI X hx hby d21_33 rfl rfl (zC X hx hby d21_34 rfl rfl (l' := #[rv xb, iv ((2 : Int32) + (1 : Int32)), iv xp]) rfl (zI X hx hby d21_37 rfl rfl kt))) ?_
  obtain ⟨T, X, e0, st⟩ := getS2 X hx hZ hown (host := "") (Or.inl (oW hw 94 rfl)) Via.refl e0 (S_H.ext Oh) (g := (mkF m 38 #[rv xb, iv 3, iv xp] [(.int xp), (.int 2), (.ref xb)])) rfl (hb hby d21_38)
  refine oWk.st (fun _ kt => st _ (XS.ishr X.here hx rfl (hb hby d21_41) rfl (XS.i2b X.here hx rfl (hb hby d21_42) rfl kt))) ?_
  obtain ⟨cl1, Ar1, q1, Sz1, Nn1, Hs1, Ft1⟩ := id V_xb
  have hin1 : ¬ ((2 : Int32) < 0 ∨ cl1.slots.size ≤ ((2 : Int32)).toNatClampNeg) := inb_of Sz1 ⟨by decide, by decide⟩
  obtain ⟨T, h, X, e0, W1, st⟩ := stB X hx hZ e0 Ar1 (j := (2 : Int32)) hin1 (g := (mkF m 43 #[rv xb, iv 3, iv xp] [(iu0 xp), (.int 2), (.ref xb)])) rfl rfl (hb hby d21_43)
  have K := K.wr W1 (Or.inl (List.mem_of_getElem? (i := 0) rfl))
  have V_xb := Arv.set Ar1 q1 Sz1 Nn1 Hs1 Ft1 (fits_nar_byte _) W1 2 rfl (Nat.le_of_ble_eq_true rfl)
  rw [oB8 (xp >>> ((0 : Int32) &&& 31))] at V_xb
  replace V_xb : Arv Z h xb xk .byte (6 : Int32) [(.int xy0), (.int xy1), (iu0 xp), (.int xy3), (.int xy4), (.int xy5)] (.int (0 : Int32)) := V_xb
  refine oWk.st (fun _ kt => st _ (zA X hx hby d21_44 rfl rfl rfl (zI X hx hby d21_45 rfl rfl (zI X hx hby d21_46 rfl rfl kt)))) ?_
  have Oh := K.old O0 (allS og_xb all0)
  obtain ⟨T, X, e0, st⟩ := getS2 X hx hZ hown (host := "") (Or.inl (oW hw 95 rfl)) Via.refl e0 (S_L.ext Oh) (g := (mkF m 47 #[rv xb, iv 3, iv xp] [(.int xp), (.int 3), (.ref xb)])) rfl (hb hby d21_47)
  refine oWk.st (fun _ kt => st _ (XS.ishr X.here hx rfl (hb hby d21_50) rfl (XS.i2b X.here hx rfl (hb hby d21_51) rfl kt))) ?_
  obtain ⟨cl2, Ar2, q2, Sz2, Nn2, Hs2, Ft2⟩ := id V_xb
  have hin2 : ¬ ((3 : Int32) < 0 ∨ cl2.slots.size ≤ ((3 : Int32)).toNatClampNeg) := inb_of Sz2 ⟨by decide, by decide⟩
  obtain ⟨T, h, X, e0, W2, st⟩ := stB X hx hZ e0 Ar2 (j := (3 : Int32)) hin2 (g := (mkF m 52 #[rv xb, iv 3, iv xp] [(iu8 xp), (.int 3), (.ref xb)])) rfl rfl (hb hby d21_52)
  have K := K.wr W2 (Or.inl (List.mem_of_getElem? (i := 0) rfl))
  have V_xb := Arv.set Ar2 q2 Sz2 Nn2 Hs2 Ft2 (fits_nar_byte _) W2 3 rfl (Nat.le_of_ble_eq_true rfl)
  rw [oB8 (xp >>> ((8 : Int32) &&& 31))] at V_xb
  replace V_xb : Arv Z h xb xk .byte (6 : Int32) [(.int xy0), (.int xy1), (iu0 xp), (iu8 xp), (.int xy4), (.int xy5)] (.int (0 : Int32)) := V_xb
  refine oWk.to (mkF m 53 #[rv xb, iv 3, iv xp] []) (fun _ kt => st _ kt) ?_
  exact oRetV X hx hlk hret (hb hby d21_53) (by rw [e0]; exact ⟨rfl, K, V_xb⟩) (by decide) (by decide)
def Q_rPut_3_2 (Z : State) (xb : Addr) (xk : ClassId) (xp xy0 xy1 xy2 xy3 xy4 xy5 : Int32) (h0 : Heap) (v : Option Value) (h : Heap) (L : List Loc) : Prop := v = none ∧ oKp h0 h [xb] L ∧ (Arv Z h xb xk .byte (6 : Int32) [(.int xy0), (.int xy1), (.int xy2), (.int xy3), (iu0 xp), (iu8 xp)] (.int (0 : Int32)))
theorem rPut_3_2 (l : Launch) (Z : State) (a0 : Array Value) (hw : oHW a0 Z) (ws : List Jvm.Cond) (xb : Addr) (xk : ClassId) (xp xy0 xy1 xy2 xy3 xy4 xy5 : Int32) (h0 : Heap) (O0 : Ext Z.heap h0) (S_A : Sta Z Z.heap Y1 Y3 "Z" (.int (1 : Int32))) (S_H : Sta Z Z.heap Y1 "HI_BYTE_SHIFT" "I" (.int (0 : Int32))) (S_L : Sta Z Z.heap Y1 "LO_BYTE_SHIFT" "I" (.int (8 : Int32))) (og_xb : Z.heap.size ≤ xb) (V_xb : Arv Z h0 xb xk .byte (6 : Int32) [(.int xy0), (.int xy1), (.int xy2), (.int xy3), (.int xy4), (.int xy5)] (.int (0 : Int32))) :
    oCon l Z yy24 jdk_52_method_4_code 3 none ws ({ frames := 0, cells := 0, slots := 0, locals := 0 } : Room) #[(.ref xb), (.int (2 : Int32)), (.int xp)] h0 (Q_rPut_3_2 Z xb xk xp xy0 xy1 xy2 xy3 xy4 xy5 h0) := by
  refine oCon.of (plainFor_of_name pn_2) ?_
  intro p e s m below meth c T X hx hby hml hown hnm hret hlk hZ e0
  have hml : c.maxLocals = 3 := hml
  have K : oKp h0 h0 [xb] [] := oKp.nil _ _
  refine oWk.cast (g' := (mkF m 0 #[rv xb, iv 2, iv xp] [])) (by first | rfl | (simp [entryFrame, mkF, argsToLocals, Value.category]; done)) ?_
  have Oh := K.old O0 (allS og_xb all0)
  obtain ⟨T, X, e0, st⟩ := getS2 X hx hZ hown (host := "") (Or.inl (oW hw 93 rfl)) Via.refl e0 (S_A.ext Oh) (g := (mkF m 0 #[rv xb, iv 2, iv xp] [])) rfl (hb hby d21_0)
  refine oWk.to (mkF m 33 #[rv xb, iv 4, iv xp] [(.ref xb)]) (fun _ kt => st _ (zF X hx hby d21_3 rfl rfl ((if0 _ _).trans (feq (by decide)).2) (pc' := 28) rfl (zI X hx hby d21_28 rfl rfl (zK X hx hby d21_29 rfl (XS.ishl X.here hx rfl (hb hby d21_30) rfl (zSn X hx hby d21_31 rfl rfl (l' := #[rv xb, iv 4, iv xp]) rfl (zA X hx hby d21_32 rfl rfl rfl kt))))))) ?_
  refine oWk.st (fun _ kt => zI X hx hby d21_33 rfl rfl (zC X hx hby d21_34 rfl rfl (l' := #[rv xb, iv ((4 : Int32) + (1 : Int32)), iv xp]) rfl (zI X hx hby d21_37 rfl rfl kt))) ?_
  obtain ⟨T, X, e0, st⟩ := getS2 X hx hZ hown (host := "") (Or.inl (oW hw 94 rfl)) Via.refl e0 (S_H.ext Oh) (g := (mkF m 38 #[rv xb, iv 5, iv xp] [(.int xp), (.int 4), (.ref xb)])) rfl (hb hby d21_38)
  refine oWk.st (fun _ kt => st _ (XS.ishr X.here hx rfl (hb hby d21_41) rfl (XS.i2b X.here hx rfl (hb hby d21_42) rfl kt))) ?_
  obtain ⟨cl1, Ar1, q1, Sz1, Nn1, Hs1, Ft1⟩ := id V_xb
  have hin1 : ¬ ((4 : Int32) < 0 ∨ cl1.slots.size ≤ ((4 : Int32)).toNatClampNeg) := inb_of Sz1 ⟨by decide, by decide⟩
  obtain ⟨T, h, X, e0, W1, st⟩ := stB X hx hZ e0 Ar1 (j := (4 : Int32)) hin1 (g := (mkF m 43 #[rv xb, iv 5, iv xp] [(iu0 xp), (.int 4), (.ref xb)])) rfl rfl (hb hby d21_43)
  have K := K.wr W1 (Or.inl (List.mem_of_getElem? (i := 0) rfl))
  have V_xb := Arv.set Ar1 q1 Sz1 Nn1 Hs1 Ft1 (fits_nar_byte _) W1 4 rfl (Nat.le_of_ble_eq_true rfl)
  rw [oB8 (xp >>> ((0 : Int32) &&& 31))] at V_xb
  replace V_xb : Arv Z h xb xk .byte (6 : Int32) [(.int xy0), (.int xy1), (.int xy2), (.int xy3), (iu0 xp), (.int xy5)] (.int (0 : Int32)) := V_xb
  refine oWk.st (fun _ kt => st _ (zA X hx hby d21_44 rfl rfl rfl (zI X hx hby d21_45 rfl rfl (zI X hx hby d21_46 rfl rfl kt)))) ?_
  have Oh := K.old O0 (allS og_xb all0)
  obtain ⟨T, X, e0, st⟩ := getS2 X hx hZ hown (host := "") (Or.inl (oW hw 95 rfl)) Via.refl e0 (S_L.ext Oh) (g := (mkF m 47 #[rv xb, iv 5, iv xp] [(.int xp), (.int 5), (.ref xb)])) rfl (hb hby d21_47)
  refine oWk.st (fun _ kt => st _ (XS.ishr X.here hx rfl (hb hby d21_50) rfl (XS.i2b X.here hx rfl (hb hby d21_51) rfl kt))) ?_
  obtain ⟨cl2, Ar2, q2, Sz2, Nn2, Hs2, Ft2⟩ := id V_xb
  have hin2 : ¬ ((5 : Int32) < 0 ∨ cl2.slots.size ≤ ((5 : Int32)).toNatClampNeg) := inb_of Sz2 ⟨by decide, by decide⟩
  obtain ⟨T, h, X, e0, W2, st⟩ := stB X hx hZ e0 Ar2 (j := (5 : Int32)) hin2 (g := (mkF m 52 #[rv xb, iv 5, iv xp] [(iu8 xp), (.int 5), (.ref xb)])) rfl rfl (hb hby d21_52)
  have K := K.wr W2 (Or.inl (List.mem_of_getElem? (i := 0) rfl))
  have V_xb := Arv.set Ar2 q2 Sz2 Nn2 Hs2 Ft2 (fits_nar_byte _) W2 5 rfl (Nat.le_of_ble_eq_true rfl)
  rw [oB8 (xp >>> ((8 : Int32) &&& 31))] at V_xb
  replace V_xb : Arv Z h xb xk .byte (6 : Int32) [(.int xy0), (.int xy1), (.int xy2), (.int xy3), (iu0 xp), (iu8 xp)] (.int (0 : Int32)) := V_xb
  refine oWk.to (mkF m 53 #[rv xb, iv 5, iv xp] []) (fun _ kt => st _ kt) ?_
  exact oRetV X hx hlk hret (hb hby d21_53) (by rw [e0]; exact ⟨rfl, K, V_xb⟩) (by decide) (by decide)
def Q_rTBU_3 (Z : State) (xa : Addr) (xk : ClassId) (xc0 xc1 xc2 : Int32) (h0 : Heap) (v : Option Value) (h : Heap) (L : List Loc) : Prop := ∃ (nb : Addr) (nk : ClassId), v = some (.ref nb) ∧ oKp h0 h [] L ∧ (h0.size ≤ nb) ∧ (Arv Z h nb nk .byte (6 : Int32) [(iu0 xc0), (iu8 xc0), (iu0 xc1), (iu8 xc1), (iu0 xc2), (iu8 xc2)] (.int (0 : Int32)))
theorem rTBU_3 (l : Launch) (Z : State) (a0 : Array Value) (hw : oHW a0 Z) (ws : List Jvm.Cond) (xa : Addr) (xk : ClassId) (xc0 xc1 xc2 : Int32) (h0 : Heap) (O0 : Ext Z.heap h0) (S_A : Sta Z Z.heap Y1 Y3 "Z" (.int (1 : Int32))) (S_H : Sta Z Z.heap Y1 "HI_BYTE_SHIFT" "I" (.int (0 : Int32))) (S_L : Sta Z Z.heap Y1 "LO_BYTE_SHIFT" "I" (.int (8 : Int32))) (V_xa : Arv Z h0 xa xk .char (3 : Int32) [(.int xc0), (.int xc1), (.int xc2)] (.int (0 : Int32))) :
    oCon l Z yy25 jdk_52_method_14_code 5 (some (.array .byte)) ws ({ frames := 2, cells := 1, slots := 6, locals := 24 } : Room) #[(.ref xa), (.int (0 : Int32)), (.int (3 : Int32))] h0 (Q_rTBU_3 Z xa xk xc0 xc1 xc2 h0) := by
  refine oCon.of (plainFor_of_name pn_2) ?_
  intro p e s m below meth c T X hx hby hml hown hnm hret hlk hZ e0
  have hml : c.maxLocals = 5 := hml
  have K : oKp h0 h0 [] [] := oKp.nil _ _
  refine oWk.cast (g' := (mkF m 0 #[rv xa, iv 0, iv 3, uu, uu] [])) (by first | rfl | (simp [entryFrame, mkF, argsToLocals, Value.category]; done)) ?_
  refine oWk.st (fun _ kt => zI X hx hby d18_0 rfl rfl kt) ?_
  have lt_xa := V_xa.lt
  have Oh := K.old O0 all0
  obtain ⟨_, T, h, Lc2, X, e0, hQ, st⟩ := (cs21 hw).run X hx hZ hown e0 (A := [(.int (3 : Int32))]) rfl (rNBF_3 l Z a0 hw []  h0 Oh ) (W := 0) (by decide) hml (Ls := #[rv xa, iv 0, iv 3, uu, uu]) rfl (rest := []) rfl rfl hby d18_1
  obtain ⟨nb1, nk1, rfl, K1, gn_nb1, V_nb1⟩ := hQ
  have ge_nb1 := Nat.le_trans K.le gn_nb1
  have ne_xa_nb1 : xa ≠ nb1 := Nat.ne_of_lt (Nat.lt_of_lt_of_le lt_xa gn_nb1)
  have K := K.call K1 all0
  refine oWk.to (mkF m 14 #[rv xa, iv 0, iv 3, rv nb1, iv 0] []) (fun _ kt => st _ (zTn X hx hby d18_4 rfl rfl rfl (l' := #[rv xa, iv 0, iv 3, rv nb1, uu]) rfl (zK X hx hby d18_5 rfl (zS X hx hby d18_6 rfl rfl (l' := #[rv xa, iv 0, iv 3, rv nb1, iv 0]) rfl (zJ X hx hby d18_8 rfl rfl (zI X hx hby d18_10 rfl rfl (zN X hx hby d18_11 rfl rfl (tlt (by decide)).2.1 kt))))))) ?_
  refine oWk.st (fun _ kt => zA X hx hby d18_14 rfl rfl rfl (zJ X hx hby d18_15 rfl rfl (zA X hx hby d18_17 rfl rfl rfl (zI X hx hby d18_18 rfl rfl kt)))) ?_
  have V_xa := (V_xa.keep K1.1 nin0)
  refine oWk.st (fun _ kt => oLdC X hx hZ e0 V_xa (0 : Int32) (.int xc0) ⟨by decide, by decide⟩ rfl hby d18_19 rfl rfl kt) ?_
  have Oh := K.old O0 all0
  obtain ⟨_, T, h, Lc5, X, e0, hQ, st⟩ := (cs22 hw).run X hx hZ hown e0 (A := [(.ref nb1), (.int (0 : Int32)), (.int xc0)]) rfl (rPut_3_0 l Z a0 hw [] nb1 nk1 xc0 (0 : Int32) (0 : Int32) (0 : Int32) (0 : Int32) (0 : Int32) (0 : Int32) h Oh S_A S_H S_L (Nat.le_trans O0.1 ge_nb1) V_nb1) (W := 0) (by decide) hml (Ls := #[rv xa, iv 0, iv 3, rv nb1, iv 0]) rfl (rest := []) rfl rfl hby d18_20
  obtain ⟨rfl, K4, V_nb1⟩ := hQ
  have K := K.call K4 (allS (Or.inr ge_nb1) all0)
  refine oWk.to (mkF m 14 #[rv xa, iv 1, iv 3, rv nb1, iv 1] []) (fun _ kt => st _ (zC X hx hby d18_23 rfl rfl (l' := #[rv xa, iv ((0 : Int32) + (1 : Int32)), iv 3, rv nb1, iv 0]) rfl (zC X hx hby d18_26 rfl rfl (l' := #[rv xa, iv 1, iv 3, rv nb1, iv ((0 : Int32) + (1 : Int32))]) rfl (zG X hx hby d18_29 rfl (pc' := 8) rfl (zJ X hx hby d18_8 rfl rfl (zI X hx hby d18_10 rfl rfl (zN X hx hby d18_11 rfl rfl (tlt (by decide)).2.1 kt))))))) ?_
  refine oWk.st (fun _ kt => zA X hx hby d18_14 rfl rfl rfl (zJ X hx hby d18_15 rfl rfl (zA X hx hby d18_17 rfl rfl rfl (zI X hx hby d18_18 rfl rfl kt)))) ?_
  have V_xa := (V_xa.keep K4.1 (ninS ne_xa_nb1 nin0))
  refine oWk.st (fun _ kt => oLdC X hx hZ e0 V_xa (1 : Int32) (.int xc1) ⟨by decide, by decide⟩ rfl hby d18_19 rfl rfl kt) ?_
  have Oh := K.old O0 all0
  obtain ⟨_, T, h, Lc8, X, e0, hQ, st⟩ := (cs22 hw).run X hx hZ hown e0 (A := [(.ref nb1), (.int (1 : Int32)), (.int xc1)]) rfl (rPut_3_1 l Z a0 hw [] nb1 nk1 xc1 ((xc0 >>> ((0 : Int32) &&& 31)).toInt8.toInt32) ((xc0 >>> ((8 : Int32) &&& 31)).toInt8.toInt32) (0 : Int32) (0 : Int32) (0 : Int32) (0 : Int32) h Oh S_A S_H S_L (Nat.le_trans O0.1 ge_nb1) V_nb1) (W := 0) (by decide) hml (Ls := #[rv xa, iv 1, iv 3, rv nb1, iv 1]) rfl (rest := []) rfl rfl hby d18_20
  obtain ⟨rfl, K7, V_nb1⟩ := hQ
  have K := K.call K7 (allS (Or.inr ge_nb1) all0)
  refine oWk.to (mkF m 14 #[rv xa, iv 2, iv 3, rv nb1, iv 2] []) (fun _ kt => st _ (zC X hx hby d18_23 rfl rfl (l' := #[rv xa, iv ((1 : Int32) + (1 : Int32)), iv 3, rv nb1, iv 1]) rfl (zC X hx hby d18_26 rfl rfl (l' := #[rv xa, iv 2, iv 3, rv nb1, iv ((1 : Int32) + (1 : Int32))]) rfl (zG X hx hby d18_29 rfl (pc' := 8) rfl (zJ X hx hby d18_8 rfl rfl (zI X hx hby d18_10 rfl rfl (zN X hx hby d18_11 rfl rfl (tlt (by decide)).2.1 kt))))))) ?_
  refine oWk.st (fun _ kt => zA X hx hby d18_14 rfl rfl rfl (zJ X hx hby d18_15 rfl rfl (zA X hx hby d18_17 rfl rfl rfl (zI X hx hby d18_18 rfl rfl kt)))) ?_
  have V_xa := (V_xa.keep K7.1 (ninS ne_xa_nb1 nin0))
  refine oWk.st (fun _ kt => oLdC X hx hZ e0 V_xa (2 : Int32) (.int xc2) ⟨by decide, by decide⟩ rfl hby d18_19 rfl rfl kt) ?_
  have Oh := K.old O0 all0
  obtain ⟨_, T, h, Lc11, X, e0, hQ, st⟩ := (cs22 hw).run X hx hZ hown e0 (A := [(.ref nb1), (.int (2 : Int32)), (.int xc2)]) rfl (rPut_3_2 l Z a0 hw [] nb1 nk1 xc2 ((xc0 >>> ((0 : Int32) &&& 31)).toInt8.toInt32) ((xc0 >>> ((8 : Int32) &&& 31)).toInt8.toInt32) ((xc1 >>> ((0 : Int32) &&& 31)).toInt8.toInt32) ((xc1 >>> ((8 : Int32) &&& 31)).toInt8.toInt32) (0 : Int32) (0 : Int32) h Oh S_A S_H S_L (Nat.le_trans O0.1 ge_nb1) V_nb1) (W := 0) (by decide) hml (Ls := #[rv xa, iv 2, iv 3, rv nb1, iv 2]) rfl (rest := []) rfl rfl hby d18_20
  obtain ⟨rfl, K10, V_nb1⟩ := hQ
  have K := K.call K10 (allS (Or.inr ge_nb1) all0)
  refine oWk.to (mkF m 32 #[rv xa, iv 3, iv 3, rv nb1, iv 3] []) (fun _ kt => st _ (zC X hx hby d18_23 rfl rfl (l' := #[rv xa, iv ((2 : Int32) + (1 : Int32)), iv 3, rv nb1, iv 2]) rfl (zC X hx hby d18_26 rfl rfl (l' := #[rv xa, iv 3, iv 3, rv nb1, iv ((2 : Int32) + (1 : Int32))]) rfl (zG X hx hby d18_29 rfl (pc' := 8) rfl (zJ X hx hby d18_8 rfl rfl (zI X hx hby d18_10 rfl rfl (zY X hx hby d18_11 rfl rfl (flt (by decide)).2.1 (pc' := 32) rfl kt))))))) ?_
  refine oWk.to (mkF m 33 #[rv xa, iv 3, iv 3, rv nb1, iv 3] [(.ref nb1)]) (fun _ kt => zA X hx hby d18_32 rfl rfl rfl kt) ?_
  exact oRetA X hx hlk hret rfl rfl (hb hby d18_33) (by rw [e0]; exact ⟨nb1, nk1, rfl, K, ge_nb1, V_nb1⟩) (by decide) (by decide)
def Q_rC3U_3 (Z : State) (xa : Addr) (xk : ClassId) (xc0 xc1 xc2 : Int32) (h0 : Heap) (v : Option Value) (h : Heap) (L : List Loc) : Prop := ∃ (nb : Addr) (nk : ClassId), v = some (.ref nb) ∧ oKp h0 h [] L ∧ (h0.size ≤ nb) ∧ (Arv Z h nb nk .byte (6 : Int32) [(iu0 xc0), (iu8 xc0), (iu0 xc1), (iu8 xc1), (iu0 xc2), (iu8 xc2)] (.int (0 : Int32)))
theorem rC3U_3 (l : Launch) (Z : State) (a0 : Array Value) (hw : oHW a0 Z) (ws : List Jvm.Cond) (xa : Addr) (xk : ClassId) (xc0 xc1 xc2 : Int32) (h0 : Heap) (O0 : Ext Z.heap h0) (S_A : Sta Z Z.heap Y1 Y3 "Z" (.int (1 : Int32))) (S_H : Sta Z Z.heap Y1 "HI_BYTE_SHIFT" "I" (.int (0 : Int32))) (S_L : Sta Z Z.heap Y1 "LO_BYTE_SHIFT" "I" (.int (8 : Int32))) (V_xa : Arv Z h0 xa xk .char (3 : Int32) [(.int xc0), (.int xc1), (.int xc2)] (.int (0 : Int32))) (hr0 : 0 ≤ xc0.toInt ∧ xc0.toInt < 65536) (hr1 : 0 ≤ xc1.toInt ∧ xc1.toInt < 65536) (hr2 : 0 ≤ xc2.toInt ∧ xc2.toInt < 65536) (hU : ((255 : Int32) < xc0) ∨ (¬ (255 : Int32) < xc0 ∧ (255 : Int32) < xc1) ∨ (¬ (255 : Int32) < xc0 ∧ ¬ (255 : Int32) < xc1 ∧ (255 : Int32) < xc2)) :
    oCon l Z yy20 jdk_52_method_16_code 6 (some (.array .byte)) ws ({ frames := 3, cells := 2, slots := 9, locals := 40 } : Room) #[(.ref xa), (.int (0 : Int32)), (.int (3 : Int32))] h0 (Q_rC3U_3 Z xa xk xc0 xc1 xc2 h0) := by
  refine oCon.of (plainFor_of_name pn_2) ?_
  intro p e s m below meth c T X hx hby hml hown hnm hret hlk hZ e0
  have hml : c.maxLocals = 6 := hml
  have K : oKp h0 h0 [] [] := oKp.nil _ _
  refine oWk.cast (g' := (mkF m 0 #[rv xa, iv 0, iv 3, uu, uu, uu] [])) (by first | rfl | (simp [entryFrame, mkF, argsToLocals, Value.category]; done)) ?_
  rcases hU with hgt | ⟨hle0, hgt⟩ | ⟨hle0, hle1, hgt⟩
  · show oWk _ _ _ _ T (mkF m 0 #[rv xa, iv 0, iv 3, uu, uu, uu] [])
    refine oWk.st (fun _ kt => zI X hx hby d15_0 rfl rfl kt) ?_
    obtain ⟨o1, g1⟩ : ∃ z, z = h0.size := ⟨_, rfl⟩
    have ne_xa_o1 : xa ≠ o1 := Nat.ne_of_lt (Nat.lt_of_lt_of_le V_xa.lt (Nat.le_of_eq g1.symm))
    have ge_o1 : h0.size ≤ o1 := Nat.le_trans K.le (Nat.le_of_eq g1.symm)
    obtain ⟨T, h, k1, X, e0, E1, A1, st⟩ := newP X hx hZ (oW hw 28 rfl) e0 (g := (mkF m 1 #[rv xa, iv 0, iv 3, uu, uu, uu] [(.int 3)])) rfl (hb hby d15_1) rfl (by decide) (cap := 3) (by decide) (by decide) (by decide) (by decide)
    rw [← g1] at A1 st
    have K := K.ext E1
    have V_o1 : Arv Z h o1 k1 .byte (3 : Int32) [(.int (0 : Int32)), (.int (0 : Int32)), (.int (0 : Int32))] (.int (0 : Int32)) := (Arv.new A1 (by decide)).pad (pad_rep [] (.int (0 : Int32)) 3)
    refine oWk.to (mkF m 9 #[rv xa, iv 0, iv 3, rv o1, uu, uu] [(.int 3), (.int 0), (.ref o1), (.int 0), (.ref xa)]) (fun _ kt => st _ (zTn X hx hby d15_3 rfl rfl rfl (l' := #[rv xa, iv 0, iv 3, rv o1, uu, uu]) rfl (zA X hx hby d15_4 rfl rfl rfl (zI X hx hby d15_5 rfl rfl (zA X hx hby d15_6 rfl rfl rfl (zK X hx hby d15_7 rfl (zI X hx hby d15_8 rfl rfl kt))))))) ?_
    have V_xa := (V_xa.ext E1)
    have Oh := K.old O0 all0
    obtain ⟨_, T, h, Lc3, X, e0, hQ, st⟩ := (cs16 hw).run X hx hZ hown e0 (A := [(.ref xa), (.int (0 : Int32)), (.ref o1), (.int (0 : Int32)), (.int (3 : Int32))]) rfl (rC5U_3_0 l Z a0 hw [] xa o1 xk k1 xc0 xc1 xc2 h Oh (Nat.le_trans O0.1 ge_o1) ne_xa_o1 V_xa V_o1 hgt) (W := 0) (by decide) hml (Ls := #[rv xa, iv 0, iv 3, rv o1, uu, uu]) rfl (rest := []) rfl rfl hby d15_9
    obtain ⟨rfl, K2⟩ := hQ
    have K := K.call K2 (allS (Or.inr ge_o1) all0)
    refine oWk.to (mkF m 22 #[rv xa, iv 0, iv 3, rv o1, iv 0, uu] [(.int 0), (.ref xa)]) (fun _ kt => st _ (zS X hx hby d15_12 rfl rfl (l' := #[rv xa, iv 0, iv 3, rv o1, iv 0, uu]) rfl (zJ X hx hby d15_14 rfl rfl (zI X hx hby d15_16 rfl rfl (zN X hx hby d15_17 rfl rfl (feq (by decide)).1 (zA X hx hby d15_20 rfl rfl rfl (zI X hx hby d15_21 rfl rfl kt))))))) ?_
    refine oWk.st (fun _ kt => zI X hx hby d15_22 rfl rfl kt) ?_
    have V_xa := (V_xa.keep K2.1 (ninS ne_xa_o1 nin0))
    have lt_xa := V_xa.lt
    have Oh := K.old O0 all0
    obtain ⟨_, T, h, Lc5, X, e0, hQ, st⟩ := (cs23 hw).run X hx hZ hown e0 (A := [(.ref xa), (.int (0 : Int32)), (.int (3 : Int32))]) rfl (rTBU_3 l Z a0 hw [] xa xk xc0 xc1 xc2 h Oh S_A S_H S_L V_xa) (W := 0) (by decide) hml (Ls := #[rv xa, iv 0, iv 3, rv o1, iv 0, uu]) rfl (rest := []) rfl rfl hby d15_23
    obtain ⟨nb4, nk4, rfl, K4, gn_nb4, V_nb4⟩ := hQ
    have ge_nb4 := Nat.le_trans K.le gn_nb4
    have ne_xa_nb4 : xa ≠ nb4 := Nat.ne_of_lt (Nat.lt_of_lt_of_le lt_xa gn_nb4)
    have K := K.call K4 all0
    refine oWk.st (fun _ kt => st _ (zT X hx hby d15_26 rfl rfl rfl (l' := #[rv xa, iv 0, iv 3, rv o1, iv 0, rv nb4]) rfl (zB X hx hby d15_28 rfl rfl rfl (zJ X hx hby d15_30 rfl rfl kt)))) ?_
    have Oh := K.old O0 all0
    obtain ⟨T, L7, X, e0, K, st⟩ := (cs5 hw).pure X hx hZ hown e0 K (A := [(.ref nb4), (.int (0 : Int32))]) rfl (rGC_3_0 l Z a0 hw [] nb4 nk4 xc0 xc1 xc2 h Oh S_A S_H S_L hr0 V_nb4) (W := 0) (by decide) hml (Ls := #[rv xa, iv 0, iv 3, rv o1, iv 0, rv nb4]) rfl (rest := []) rfl rfl hby d15_32
    refine oWk.to (mkF m 56 #[rv xa, iv 0, iv 3, rv o1, iv 0, rv nb4] [(.ref nb4)]) (fun _ kt => st _ (zM X hx hby d15_35 rfl (zY X hx hby d15_38 rfl rfl (tlt hgt).2.2.1 (pc' := 54) rfl (zB X hx hby d15_54 rfl rfl rfl kt)))) ?_
    exact oRetA X hx hlk hret rfl rfl (hb hby d15_56) (by rw [e0]; exact ⟨nb4, nk4, rfl, K, ge_nb4, V_nb4⟩) (by decide) (by decide)
  · show oWk _ _ _ _ T (mkF m 0 #[rv xa, iv 0, iv 3, uu, uu, uu] [])
    refine oWk.st (fun _ kt => zI X hx hby d15_0 rfl rfl kt) ?_
    obtain ⟨o8, g8⟩ : ∃ z, z = h0.size := ⟨_, rfl⟩
    have ne_xa_o8 : xa ≠ o8 := Nat.ne_of_lt (Nat.lt_of_lt_of_le V_xa.lt (Nat.le_of_eq g8.symm))
    have ge_o8 : h0.size ≤ o8 := Nat.le_trans K.le (Nat.le_of_eq g8.symm)
    obtain ⟨T, h, k8, X, e0, E8, A8, st⟩ := newP X hx hZ (oW hw 28 rfl) e0 (g := (mkF m 1 #[rv xa, iv 0, iv 3, uu, uu, uu] [(.int 3)])) rfl (hb hby d15_1) rfl (by decide) (cap := 3) (by decide) (by decide) (by decide) (by decide)
    rw [← g8] at A8 st
    have K := K.ext E8
    have V_o8 : Arv Z h o8 k8 .byte (3 : Int32) [(.int (0 : Int32)), (.int (0 : Int32)), (.int (0 : Int32))] (.int (0 : Int32)) := (Arv.new A8 (by decide)).pad (pad_rep [] (.int (0 : Int32)) 3)
    refine oWk.to (mkF m 9 #[rv xa, iv 0, iv 3, rv o8, uu, uu] [(.int 3), (.int 0), (.ref o8), (.int 0), (.ref xa)]) (fun _ kt => st _ (zTn X hx hby d15_3 rfl rfl rfl (l' := #[rv xa, iv 0, iv 3, rv o8, uu, uu]) rfl (zA X hx hby d15_4 rfl rfl rfl (zI X hx hby d15_5 rfl rfl (zA X hx hby d15_6 rfl rfl rfl (zK X hx hby d15_7 rfl (zI X hx hby d15_8 rfl rfl kt))))))) ?_
    have V_xa := (V_xa.ext E8)
    have Oh := K.old O0 all0
    obtain ⟨_, T, h, Lc10, X, e0, hQ, st⟩ := (cs16 hw).run X hx hZ hown e0 (A := [(.ref xa), (.int (0 : Int32)), (.ref o8), (.int (0 : Int32)), (.int (3 : Int32))]) rfl (rC5U_3_1 l Z a0 hw [] xa o8 xk k8 xc0 xc1 xc2 h Oh (Nat.le_trans O0.1 ge_o8) ne_xa_o8 V_xa V_o8 hle0 hgt) (W := 0) (by decide) hml (Ls := #[rv xa, iv 0, iv 3, rv o8, uu, uu]) rfl (rest := []) rfl rfl hby d15_9
    obtain ⟨rfl, K9⟩ := hQ
    have K := K.call K9 (allS (Or.inr ge_o8) all0)
    refine oWk.to (mkF m 22 #[rv xa, iv 0, iv 3, rv o8, iv 1, uu] [(.int 0), (.ref xa)]) (fun _ kt => st _ (zS X hx hby d15_12 rfl rfl (l' := #[rv xa, iv 0, iv 3, rv o8, iv 1, uu]) rfl (zJ X hx hby d15_14 rfl rfl (zI X hx hby d15_16 rfl rfl (zN X hx hby d15_17 rfl rfl (feq (by decide)).1 (zA X hx hby d15_20 rfl rfl rfl (zI X hx hby d15_21 rfl rfl kt))))))) ?_
    refine oWk.st (fun _ kt => zI X hx hby d15_22 rfl rfl kt) ?_
    have V_xa := (V_xa.keep K9.1 (ninS ne_xa_o8 nin0))
    have lt_xa := V_xa.lt
    have Oh := K.old O0 all0
    obtain ⟨_, T, h, Lc12, X, e0, hQ, st⟩ := (cs23 hw).run X hx hZ hown e0 (A := [(.ref xa), (.int (0 : Int32)), (.int (3 : Int32))]) rfl (rTBU_3 l Z a0 hw [] xa xk xc0 xc1 xc2 h Oh S_A S_H S_L V_xa) (W := 0) (by decide) hml (Ls := #[rv xa, iv 0, iv 3, rv o8, iv 1, uu]) rfl (rest := []) rfl rfl hby d15_23
    obtain ⟨nb11, nk11, rfl, K11, gn_nb11, V_nb11⟩ := hQ
    have ge_nb11 := Nat.le_trans K.le gn_nb11
    have ne_xa_nb11 : xa ≠ nb11 := Nat.ne_of_lt (Nat.lt_of_lt_of_le lt_xa gn_nb11)
    have K := K.call K11 all0
    refine oWk.st (fun _ kt => st _ (zT X hx hby d15_26 rfl rfl rfl (l' := #[rv xa, iv 0, iv 3, rv o8, iv 1, rv nb11]) rfl (zB X hx hby d15_28 rfl rfl rfl (zJ X hx hby d15_30 rfl rfl kt)))) ?_
    have Oh := K.old O0 all0
    obtain ⟨T, L14, X, e0, K, st⟩ := (cs5 hw).pure X hx hZ hown e0 K (A := [(.ref nb11), (.int (1 : Int32))]) rfl (rGC_3_1 l Z a0 hw [] nb11 nk11 xc0 xc1 xc2 h Oh S_A S_H S_L hr1 V_nb11) (W := 0) (by decide) hml (Ls := #[rv xa, iv 0, iv 3, rv o8, iv 1, rv nb11]) rfl (rest := []) rfl rfl hby d15_32
    refine oWk.to (mkF m 56 #[rv xa, iv 0, iv 3, rv o8, iv 1, rv nb11] [(.ref nb11)]) (fun _ kt => st _ (zM X hx hby d15_35 rfl (zY X hx hby d15_38 rfl rfl (tlt hgt).2.2.1 (pc' := 54) rfl (zB X hx hby d15_54 rfl rfl rfl kt)))) ?_
    exact oRetA X hx hlk hret rfl rfl (hb hby d15_56) (by rw [e0]; exact ⟨nb11, nk11, rfl, K, ge_nb11, V_nb11⟩) (by decide) (by decide)
  · show oWk _ _ _ _ T (mkF m 0 #[rv xa, iv 0, iv 3, uu, uu, uu] [])
    refine oWk.st (fun _ kt => zI X hx hby d15_0 rfl rfl kt) ?_
    obtain ⟨o15, g15⟩ : ∃ z, z = h0.size := ⟨_, rfl⟩
    have ne_xa_o15 : xa ≠ o15 := Nat.ne_of_lt (Nat.lt_of_lt_of_le V_xa.lt (Nat.le_of_eq g15.symm))
    have ge_o15 : h0.size ≤ o15 := Nat.le_trans K.le (Nat.le_of_eq g15.symm)
    obtain ⟨T, h, k15, X, e0, E15, A15, st⟩ := newP X hx hZ (oW hw 28 rfl) e0 (g := (mkF m 1 #[rv xa, iv 0, iv 3, uu, uu, uu] [(.int 3)])) rfl (hb hby d15_1) rfl (by decide) (cap := 3) (by decide) (by decide) (by decide) (by decide)
    rw [← g15] at A15 st
    have K := K.ext E15
    have V_o15 : Arv Z h o15 k15 .byte (3 : Int32) [(.int (0 : Int32)), (.int (0 : Int32)), (.int (0 : Int32))] (.int (0 : Int32)) := (Arv.new A15 (by decide)).pad (pad_rep [] (.int (0 : Int32)) 3)
    refine oWk.to (mkF m 9 #[rv xa, iv 0, iv 3, rv o15, uu, uu] [(.int 3), (.int 0), (.ref o15), (.int 0), (.ref xa)]) (fun _ kt => st _ (zTn X hx hby d15_3 rfl rfl rfl (l' := #[rv xa, iv 0, iv 3, rv o15, uu, uu]) rfl (zA X hx hby d15_4 rfl rfl rfl (zI X hx hby d15_5 rfl rfl (zA X hx hby d15_6 rfl rfl rfl (zK X hx hby d15_7 rfl (zI X hx hby d15_8 rfl rfl kt))))))) ?_
    have V_xa := (V_xa.ext E15)
    have Oh := K.old O0 all0
    obtain ⟨_, T, h, Lc17, X, e0, hQ, st⟩ := (cs16 hw).run X hx hZ hown e0 (A := [(.ref xa), (.int (0 : Int32)), (.ref o15), (.int (0 : Int32)), (.int (3 : Int32))]) rfl (rC5U_3_2 l Z a0 hw [] xa o15 xk k15 xc0 xc1 xc2 h Oh (Nat.le_trans O0.1 ge_o15) ne_xa_o15 V_xa V_o15 hle0 hle1 hgt) (W := 0) (by decide) hml (Ls := #[rv xa, iv 0, iv 3, rv o15, uu, uu]) rfl (rest := []) rfl rfl hby d15_9
    obtain ⟨rfl, K16⟩ := hQ
    have K := K.call K16 (allS (Or.inr ge_o15) all0)
    refine oWk.to (mkF m 22 #[rv xa, iv 0, iv 3, rv o15, iv 2, uu] [(.int 0), (.ref xa)]) (fun _ kt => st _ (zS X hx hby d15_12 rfl rfl (l' := #[rv xa, iv 0, iv 3, rv o15, iv 2, uu]) rfl (zJ X hx hby d15_14 rfl rfl (zI X hx hby d15_16 rfl rfl (zN X hx hby d15_17 rfl rfl (feq (by decide)).1 (zA X hx hby d15_20 rfl rfl rfl (zI X hx hby d15_21 rfl rfl kt))))))) ?_
    refine oWk.st (fun _ kt => zI X hx hby d15_22 rfl rfl kt) ?_
    have V_xa := (V_xa.keep K16.1 (ninS ne_xa_o15 nin0))
    have lt_xa := V_xa.lt
    have Oh := K.old O0 all0
    obtain ⟨_, T, h, Lc19, X, e0, hQ, st⟩ := (cs23 hw).run X hx hZ hown e0 (A := [(.ref xa), (.int (0 : Int32)), (.int (3 : Int32))]) rfl (rTBU_3 l Z a0 hw [] xa xk xc0 xc1 xc2 h Oh S_A S_H S_L V_xa) (W := 0) (by decide) hml (Ls := #[rv xa, iv 0, iv 3, rv o15, iv 2, uu]) rfl (rest := []) rfl rfl hby d15_23
    obtain ⟨nb18, nk18, rfl, K18, gn_nb18, V_nb18⟩ := hQ
    have ge_nb18 := Nat.le_trans K.le gn_nb18
    have ne_xa_nb18 : xa ≠ nb18 := Nat.ne_of_lt (Nat.lt_of_lt_of_le lt_xa gn_nb18)
    have K := K.call K18 all0
    refine oWk.st (fun _ kt => st _ (zT X hx hby d15_26 rfl rfl rfl (l' := #[rv xa, iv 0, iv 3, rv o15, iv 2, rv nb18]) rfl (zB X hx hby d15_28 rfl rfl rfl (zJ X hx hby d15_30 rfl rfl kt)))) ?_
    have Oh := K.old O0 all0
    obtain ⟨T, L21, X, e0, K, st⟩ := (cs5 hw).pure X hx hZ hown e0 K (A := [(.ref nb18), (.int (2 : Int32))]) rfl (rGC_3_2 l Z a0 hw [] nb18 nk18 xc0 xc1 xc2 h Oh S_A S_H S_L hr2 V_nb18) (W := 0) (by decide) hml (Ls := #[rv xa, iv 0, iv 3, rv o15, iv 2, rv nb18]) rfl (rest := []) rfl rfl hby d15_32
    refine oWk.to (mkF m 56 #[rv xa, iv 0, iv 3, rv o15, iv 2, rv nb18] [(.ref nb18)]) (fun _ kt => st _ (zM X hx hby d15_35 rfl (zY X hx hby d15_38 rfl rfl (tlt hgt).2.2.1 (pc' := 54) rfl (zB X hx hby d15_54 rfl rfl rfl kt)))) ?_
    exact oRetA X hx hlk hret rfl rfl (hb hby d15_56) (by rw [e0]; exact ⟨nb18, nk18, rfl, K, ge_nb18, V_nb18⟩) (by decide) (by decide)
theorem rCoU_3 (l : Launch) (Z : State) (a0 : Array Value) (hw : oHW a0 Z) (ws : List Jvm.Cond) (xb : Addr) (xk : ClassId) (xc0 xc1 xc2 : Int32) (h0 : Heap) (O0 : Ext Z.heap h0) (V_xb : Arv Z h0 xb xk .byte (6 : Int32) [(iu0 xc0), (iu8 xc0), (iu0 xc1), (iu8 xc1), (iu0 xc2), (iu8 xc2)] (.int (0 : Int32))) :
    oCon l Z yy21 jdk_52_method_15_code 2 (some .byte) ws ({ frames := 0, cells := 0, slots := 0, locals := 0 } : Room) #[(.ref xb), (.int (3 : Int32))] h0 (oPq (some (.int (1 : Int32))) h0) := by
  refine oCon.of (plainFor_of_name pn_2) ?_
  intro p e s m below meth c T X hx hby hml hown hnm hret hlk hZ e0
  have hml : c.maxLocals = 2 := hml
  have K : oKp h0 h0 [] [] := oKp.nil _ _
  refine oWk.cast (g' := (mkF m 0 #[rv xb, iv 3] [])) (by first | rfl | (simp [entryFrame, mkF, argsToLocals, Value.category]; done)) ?_
  refine oWk.to (mkF m 8 #[rv xb, iv 3] [(.int 1)]) (fun _ kt => zI X hx hby d17_0 rfl rfl (zA X hx hby d17_1 rfl rfl rfl (oAl X hx hZ e0 V_xb hby d17_2 rfl rfl (XS.isub X.here hx rfl (hb hby d17_3) rfl (zL X hx hby d17_4 rfl (XS.iushr X.here hx rfl (hb hby d17_6) rfl (XS.i2b X.here hx rfl (hb hby d17_7) rfl kt))))))) ?_
  exact oRetN X hx hlk hret (Or.inl rfl) rfl (hb hby d17_8) (by rw [e0]; exact ⟨rfl, rfl, K⟩) (by decide) (by decide)
def Q_rI4U_3 (Z : State) (xs xa : Addr) (xk : ClassId) (xz : Int32) (xu xv : Value) (xc0 xc1 xc2 : Int32) (h0 : Heap) (v : Option Value) (h : Heap) (L : List Loc) : Prop := ∃ (nb : Addr) (nk : ClassId), v = none ∧ oKp h0 h [xs] L ∧ (Exa Z h xs Y0) ∧ (Fld Z h xs Y0 "coder" "B" (.int (1 : Int32))) ∧ (Fld Z h xs Y0 "value" "[B" (.ref nb)) ∧ (h0.size ≤ nb) ∧ (Arv Z h nb nk .byte (6 : Int32) [(iu0 xc0), (iu8 xc0), (iu0 xc1), (iu8 xc1), (iu0 xc2), (iu8 xc2)] (.int (0 : Int32)))
theorem rI4U_3 (l : Launch) (Z : State) (a0 : Array Value) (hw : oHW a0 Z) (ws : List Jvm.Cond) (xs xa : Addr) (xk : ClassId) (xz : Int32) (xu xv : Value) (xc0 xc1 xc2 : Int32) (h0 : Heap) (O0 : Ext Z.heap h0) (S_Z : Sta Z Z.heap Y0 Y2 "Z" (.int xz)) (hz : ¬ xz = (0 : Int32)) (S_A : Sta Z Z.heap Y1 Y3 "Z" (.int (1 : Int32))) (S_H : Sta Z Z.heap Y1 "HI_BYTE_SHIFT" "I" (.int (0 : Int32))) (S_L : Sta Z Z.heap Y1 "LO_BYTE_SHIFT" "I" (.int (8 : Int32))) (og_xs : Z.heap.size ≤ xs) (E_xs : Exa Z h0 xs Y0) (F_value_xs : Fld Z h0 xs Y0 "value" "[B" xu) (F_coder_xs : Fld Z h0 xs Y0 "coder" "B" xv) (V_xa : Arv Z h0 xa xk .char (3 : Int32) [(.int xc0), (.int xc1), (.int xc2)] (.int (0 : Int32))) (hr0 : 0 ≤ xc0.toInt ∧ xc0.toInt < 65536) (hr1 : 0 ≤ xc1.toInt ∧ xc1.toInt < 65536) (hr2 : 0 ≤ xc2.toInt ∧ xc2.toInt < 65536) (hU : ((255 : Int32) < xc0) ∨ (¬ (255 : Int32) < xc0 ∧ (255 : Int32) < xc1) ∨ (¬ (255 : Int32) < xc0 ∧ ¬ (255 : Int32) < xc1 ∧ (255 : Int32) < xc2)) :
    oCon l Z yy17 jdk_42_method_149_code 6 none ws ({ frames := 4, cells := 2, slots := 9, locals := 57 } : Room) #[(.ref xs), (.ref xa), (.int (0 : Int32)), (.int (3 : Int32)), .null] h0 (Q_rI4U_3 Z xs xa xk xz xu xv xc0 xc1 xc2 h0) := by
  refine oCon.of (plainFor_of_name pn_0) ?_
  intro p e s m below meth c T X hx hby hml hown hnm hret hlk hZ e0
  have hml : c.maxLocals = 6 := hml
  have K : oKp h0 h0 [xs] [] := oKp.nil _ _
  refine oWk.cast (g' := (mkF m 0 #[rv xs, rv xa, iv 0, iv 3, .val .null, uu] [])) (by first | rfl | (simp [entryFrame, mkF, argsToLocals, Value.category]; done)) ?_
  refine oWk.st (fun _ kt => zA X hx hby d5_0 rfl rfl rfl kt) ?_
  obtain ⟨T, X, e0, st⟩ := initO X hx hZ hown (oW hw 24 rfl) (oW hw 25 rfl) (oW hw 26 rfl) e0 (g := (mkF m 1 #[rv xs, rv xa, iv 0, iv 3, .val .null, uu] [(.ref xs)])) rfl (by rw [hml]; rfl) rfl (hb hby d5_1) (by decide) (W := 0) (Nat.le_of_eq rfl) (by decide)
  refine oWk.st (fun _ kt => st _ (zI X hx hby d5_4 rfl rfl (zF X hx hby d5_5 rfl rfl ((if0 _ _).trans (feq (by decide)).2) (pc' := 27) rfl kt))) ?_
  have Oh := K.old O0 (allS og_xs all0)
  obtain ⟨T, X, e0, st⟩ := getS2 X hx hZ hown (host := "") (Or.inl (oW hw 49 rfl)) Via.refl e0 (S_Z.ext Oh) (g := (mkF m 27 #[rv xs, rv xa, iv 0, iv 3, .val .null, uu] [])) rfl (hb hby d5_27)
  refine oWk.st (fun _ kt => st _ (zH X hx hby d5_30 rfl rfl ((if0 _ _).trans (feq hz).1) (zA X hx hby d5_33 rfl rfl rfl (zI X hx hby d5_34 rfl rfl (zI X hx hby d5_35 rfl rfl kt))))) ?_
  have lt_xs := E_xs.lt
  have lt_xa := V_xa.lt
  obtain ⟨_, T, h, Lc2, X, e0, hQ, st⟩ := (cs17 hw).run X hx hZ hown e0 (A := [(.ref xa), (.int (0 : Int32)), (.int (3 : Int32))]) rfl (rC3U_3 l Z a0 hw [] xa xk xc0 xc1 xc2 h0 Oh S_A S_H S_L V_xa hr0 hr1 hr2 hU) (W := 0) (by decide) hml (Ls := #[rv xs, rv xa, iv 0, iv 3, .val .null, uu]) rfl (rest := []) rfl rfl hby d5_36
  obtain ⟨nb1, nk1, rfl, K1, gn_nb1, V_nb1⟩ := hQ
  have ge_nb1 := Nat.le_trans K.le gn_nb1
  have ne_xs_nb1 : xs ≠ nb1 := Nat.ne_of_lt (Nat.lt_of_lt_of_le lt_xs gn_nb1)
  have ne_xa_nb1 : xa ≠ nb1 := Nat.ne_of_lt (Nat.lt_of_lt_of_le lt_xa gn_nb1)
  have K := K.call K1 all0
  refine oWk.st (fun _ kt => st _ (zT X hx hby d5_39 rfl rfl rfl (l' := #[rv xs, rv xa, iv 0, iv 3, .val .null, rv nb1]) rfl (zA X hx hby d5_41 rfl rfl rfl (zB X hx hby d5_42 rfl rfl rfl (zI X hx hby d5_44 rfl rfl kt))))) ?_
  have Oh := K.old O0 (allS og_xs all0)
  obtain ⟨T, L4, X, e0, K, st⟩ := (cs18 hw).pure X hx hZ hown e0 K (A := [(.ref nb1), (.int (3 : Int32))]) rfl (rCoU_3 l Z a0 hw [] nb1 nk1 xc0 xc1 xc2 h Oh V_nb1) (W := 1) (by decide) hml (Ls := #[rv xs, rv xa, iv 0, iv 3, .val .null, rv nb1]) rfl (rest := [(.ref xs)]) rfl rfl hby d5_45
  refine oWk.st (fun _ kt => st _ kt) ?_
  have E_xs := (E_xs.keep K1.1)
  have F_coder_xs := (F_coder_xs.keep K1.1 nin0)
  obtain ⟨T, h, X, e0, W5, st⟩ := putFN X hx hZ hown (oW hw 34 rfl) Via.refl e0 F_coder_xs E_xs (Or.inr ⟨(oW hw 30 rfl), rfl, hnm⟩) (oW hw 15 rfl) (ty := .byte) (v' := .int (1 : Int32)) (by decide) rfl (by decide) (g := (mkF m 48 #[rv xs, rv xa, iv 0, iv 3, .val .null, rv nb1] [(.int 1), (.ref xs)])) rfl rfl (hb hby d5_48)
  have K := K.wr W5 (Or.inl (List.mem_of_getElem? (i := 0) rfl))
  have F_coder_xs := F_coder_xs.same W5
  refine oWk.st (fun _ kt => st _ (zA X hx hby d5_51 rfl rfl rfl (zB X hx hby d5_52 rfl rfl rfl kt))) ?_
  have E_xs := (E_xs.wr W5)
  have F_value_xs := ((F_value_xs.keep K1.1 nin0).other W5 (Or.inr (slot_ne (Or.inr (oW hw 29 rfl)) (Or.inr (oW hw 30 rfl)) (by decide) (t := (.array .byte)) (t' := .byte) (by decide) (by decide))))
  obtain ⟨T, h, X, e0, W6, st⟩ := putF X hx hZ hown (host := "") (Or.inl (oW hw 33 rfl)) Via.refl e0 F_value_xs E_xs (Or.inr ⟨(oW hw 29 rfl), rfl, hnm⟩) (oW hw 15 rfl) (ty := (.array .byte)) (by decide) rfl rfl (g := (mkF m 54 #[rv xs, rv xa, iv 0, iv 3, .val .null, rv nb1] [(.ref nb1), (.ref xs)])) rfl rfl (hb hby d5_54)
  have K := K.wr W6 (Or.inl (List.mem_of_getElem? (i := 0) rfl))
  have F_value_xs := F_value_xs.same W6
  refine oWk.to (mkF m 57 #[rv xs, rv xa, iv 0, iv 3, .val .null, rv nb1] []) (fun _ kt => st _ kt) ?_
  have E_xs := (E_xs.wr W6)
  have F_coder_xs := (F_coder_xs.other W6 (Or.inr (slot_ne (Or.inr (oW hw 30 rfl)) (Or.inr (oW hw 29 rfl)) (by decide) (t := .byte) (t' := (.array .byte)) (by decide) (by decide))))
  have V_nb1 := ((V_nb1.other W5 (Ne.symm ne_xs_nb1)).other W6 (Ne.symm ne_xs_nb1))
  exact oRetV X hx hlk hret (hb hby d5_57) (by rw [e0]; exact ⟨nb1, nk1, rfl, K, E_xs, F_coder_xs, F_value_xs, ge_nb1, V_nb1⟩) (by decide) (by decide)
def Q_rI1U_3 (Z : State) (xs xa : Addr) (xk : ClassId) (xz : Int32) (xu xv : Value) (xc0 xc1 xc2 : Int32) (h0 : Heap) (v : Option Value) (h : Heap) (L : List Loc) : Prop := ∃ (nb : Addr) (nk : ClassId), v = none ∧ oKp h0 h [xs] L ∧ (Exa Z h xs Y0) ∧ (Fld Z h xs Y0 "coder" "B" (.int (1 : Int32))) ∧ (Fld Z h xs Y0 "value" "[B" (.ref nb)) ∧ (h0.size ≤ nb) ∧ (Arv Z h nb nk .byte (6 : Int32) [(iu0 xc0), (iu8 xc0), (iu0 xc1), (iu8 xc1), (iu0 xc2), (iu8 xc2)] (.int (0 : Int32)))
theorem rI1U_3 (l : Launch) (Z : State) (a0 : Array Value) (hw : oHW a0 Z) (ws : List Jvm.Cond) (xs xa : Addr) (xk : ClassId) (xz : Int32) (xu xv : Value) (xc0 xc1 xc2 : Int32) (h0 : Heap) (O0 : Ext Z.heap h0) (S_Z : Sta Z Z.heap Y0 Y2 "Z" (.int xz)) (hz : ¬ xz = (0 : Int32)) (S_A : Sta Z Z.heap Y1 Y3 "Z" (.int (1 : Int32))) (S_H : Sta Z Z.heap Y1 "HI_BYTE_SHIFT" "I" (.int (0 : Int32))) (S_L : Sta Z Z.heap Y1 "LO_BYTE_SHIFT" "I" (.int (8 : Int32))) (og_xs : Z.heap.size ≤ xs) (E_xs : Exa Z h0 xs Y0) (F_value_xs : Fld Z h0 xs Y0 "value" "[B" xu) (F_coder_xs : Fld Z h0 xs Y0 "coder" "B" xv) (V_xa : Arv Z h0 xa xk .char (3 : Int32) [(.int xc0), (.int xc1), (.int xc2)] (.int (0 : Int32))) (hr0 : 0 ≤ xc0.toInt ∧ xc0.toInt < 65536) (hr1 : 0 ≤ xc1.toInt ∧ xc1.toInt < 65536) (hr2 : 0 ≤ xc2.toInt ∧ xc2.toInt < 65536) (hU : ((255 : Int32) < xc0) ∨ (¬ (255 : Int32) < xc0 ∧ (255 : Int32) < xc1) ∨ (¬ (255 : Int32) < xc0 ∧ ¬ (255 : Int32) < xc1 ∧ (255 : Int32) < xc2)) :
    oCon l Z yy18 jdk_42_method_3_code 2 none ws ({ frames := 5, cells := 2, slots := 9, locals := 74 } : Room) #[(.ref xs), (.ref xa)] h0 (Q_rI1U_3 Z xs xa xk xz xu xv xc0 xc1 xc2 h0) := by
  refine oCon.of (plainFor_of_name pn_0) ?_
  intro p e s m below meth c T X hx hby hml hown hnm hret hlk hZ e0
  have hml : c.maxLocals = 2 := hml
  have K : oKp h0 h0 [xs] [] := oKp.nil _ _
  refine oWk.cast (g' := (mkF m 0 #[rv xs, rv xa] [])) (by first | rfl | (simp [entryFrame, mkF, argsToLocals, Value.category]; done)) ?_
  refine oWk.st (fun _ kt => zA X hx hby d4_0 rfl rfl rfl (zA X hx hby d4_1 rfl rfl rfl (zK X hx hby d4_2 rfl (zA X hx hby d4_3 rfl rfl rfl (oAl X hx hZ e0 V_xa hby d4_4 rfl rfl (XS.aconstNull X.here hx rfl (hb hby d4_5) kt)))))) ?_
  have lt_xs := E_xs.lt
  have lt_xa := V_xa.lt
  have Oh := K.old O0 (allS og_xs all0)
  obtain ⟨_, T, h, Lc3, X, e0, hQ, st⟩ := (cs19 hw).run X hx hZ hown e0 (A := [(.ref xs), (.ref xa), (.int (0 : Int32)), (.int (3 : Int32)), .null]) ⟨rfl, _, _, rfl⟩ (rI4U_3 l Z a0 hw [] xs xa xk xz xu xv xc0 xc1 xc2 h0 Oh S_Z hz S_A S_H S_L og_xs E_xs F_value_xs F_coder_xs V_xa hr0 hr1 hr2 hU) (W := 0) (by decide) hml (Ls := #[rv xs, rv xa]) rfl (rest := []) rfl rfl hby d4_6
  obtain ⟨nb2, nk2, rfl, K2, E_xs, F_coder_xs, F_value_xs, gn_nb2, V_nb2⟩ := hQ
  have ge_nb2 := Nat.le_trans K.le gn_nb2
  have ne_xs_nb2 : xs ≠ nb2 := Nat.ne_of_lt (Nat.lt_of_lt_of_le lt_xs gn_nb2)
  have ne_xa_nb2 : xa ≠ nb2 := Nat.ne_of_lt (Nat.lt_of_lt_of_le lt_xa gn_nb2)
  have K := K.call K2 (allS (Or.inl (List.mem_of_getElem? (i := 0) rfl)) all0)
  refine oWk.to (mkF m 9 #[rv xs, rv xa] []) (fun _ kt => st _ kt) ?_
  exact oRetV X hx hlk hret (hb hby d4_9) (by rw [e0]; exact ⟨nb2, nk2, rfl, K, E_xs, F_coder_xs, F_value_xs, ge_nb2, V_nb2⟩) (by decide) (by decide)
def Q_rC5U_4_0 (Z : State) (xa xd : Addr) (xk xl : ClassId) (xc0 xc1 xc2 xc3 : Int32) (h0 : Heap) (v : Option Value) (h : Heap) (L : List Loc) : Prop := v = some (.int (0 : Int32)) ∧ oKp h0 h [xd] L
theorem rC5U_4_0 (l : Launch) (Z : State) (a0 : Array Value) (hw : oHW a0 Z) (ws : List Jvm.Cond) (xa xd : Addr) (xk xl : ClassId) (xc0 xc1 xc2 xc3 : Int32) (h0 : Heap) (O0 : Ext Z.heap h0) (og_xd : Z.heap.size ≤ xd) (ne_xa_xd : xa ≠ xd) (V_xa : Arv Z h0 xa xk .char (4 : Int32) [(.int xc0), (.int xc1), (.int xc2), (.int xc3)] (.int (0 : Int32))) (V_xd : Arv Z h0 xd xl .byte (4 : Int32) [(.int (0 : Int32)), (.int (0 : Int32)), (.int (0 : Int32)), (.int (0 : Int32))] (.int (0 : Int32))) (hgt : (255 : Int32) < xc0) :
    oCon l Z yy19 jdk_52_method_21_code 7 (some .int) ws ({ frames := 0, cells := 0, slots := 0, locals := 0 } : Room) #[(.ref xa), (.int (0 : Int32)), (.ref xd), (.int (0 : Int32)), (.int (4 : Int32))] h0 (Q_rC5U_4_0 Z xa xd xk xl xc0 xc1 xc2 xc3 h0) := by
  refine oCon.of (plainFor_of_name pn_2) ?_
  intro p e s m below meth c T X hx hby hml hown hnm hret hlk hZ e0
  have hml : c.maxLocals = 7 := hml
  have K : oKp h0 h0 [xd] [] := oKp.nil _ _
  refine oWk.cast (g' := (mkF m 0 #[rv xa, iv 0, rv xd, iv 0, iv 4, uu, uu] [])) (by first | rfl | (simp [entryFrame, mkF, argsToLocals, Value.category]; done)) ?_
  refine oWk.to (mkF m 12 #[rv xa, iv 0, rv xd, iv 0, iv 4, iv 0, uu] [(.int 0), (.ref xa)]) (fun _ kt => zK X hx hby d16_0 rfl (zS X hx hby d16_1 rfl rfl (l' := #[rv xa, iv 0, rv xd, iv 0, iv 4, iv 0, uu]) rfl (zJ X hx hby d16_3 rfl rfl (zJ X hx hby d16_5 rfl rfl (zN X hx hby d16_7 rfl rfl (tlt (by decide)).2.1 (zA X hx hby d16_10 rfl rfl rfl (zI X hx hby d16_11 rfl rfl kt))))))) ?_
  refine oWk.to (mkF m 20 #[rv xa, iv 0, rv xd, iv 0, iv 4, iv 0, iv xc0] [(.int 255), (.int xc0)]) (fun _ kt => oLdC X hx hZ e0 V_xa (0 : Int32) (.int xc0) ⟨by decide, by decide⟩ rfl hby d16_12 rfl rfl (zS X hx hby d16_13 rfl rfl (l' := #[rv xa, iv 0, rv xd, iv 0, iv 4, iv 0, iv xc0]) rfl (zJ X hx hby d16_15 rfl rfl (zM X hx hby d16_17 rfl kt)))) ?_
  refine oWk.to (mkF m 25 #[rv xa, iv 0, rv xd, iv 0, iv 4, iv 0, iv xc0] [(.int 0)]) (fun _ kt => zN X hx hby d16_20 rfl rfl (tlt hgt).2.2.2 (zJ X hx hby d16_23 rfl rfl kt)) ?_
  exact oRetI X hx hlk hret (hb hby d16_25) (by rw [e0]; exact ⟨rfl, K⟩) (by decide) (by decide)
def Q_rC5U_4_1 (Z : State) (xa xd : Addr) (xk xl : ClassId) (xc0 xc1 xc2 xc3 : Int32) (h0 : Heap) (v : Option Value) (h : Heap) (L : List Loc) : Prop := v = some (.int (1 : Int32)) ∧ oKp h0 h [xd] L
theorem rC5U_4_1 (l : Launch) (Z : State) (a0 : Array Value) (hw : oHW a0 Z) (ws : List Jvm.Cond) (xa xd : Addr) (xk xl : ClassId) (xc0 xc1 xc2 xc3 : Int32) (h0 : Heap) (O0 : Ext Z.heap h0) (og_xd : Z.heap.size ≤ xd) (ne_xa_xd : xa ≠ xd) (V_xa : Arv Z h0 xa xk .char (4 : Int32) [(.int xc0), (.int xc1), (.int xc2), (.int xc3)] (.int (0 : Int32))) (V_xd : Arv Z h0 xd xl .byte (4 : Int32) [(.int (0 : Int32)), (.int (0 : Int32)), (.int (0 : Int32)), (.int (0 : Int32))] (.int (0 : Int32))) (hle0 : ¬ (255 : Int32) < xc0) (hgt : (255 : Int32) < xc1) :
    oCon l Z yy19 jdk_52_method_21_code 7 (some .int) ws ({ frames := 0, cells := 0, slots := 0, locals := 0 } : Room) #[(.ref xa), (.int (0 : Int32)), (.ref xd), (.int (0 : Int32)), (.int (4 : Int32))] h0 (Q_rC5U_4_1 Z xa xd xk xl xc0 xc1 xc2 xc3 h0) := by
  refine oCon.of (plainFor_of_name pn_2) ?_
  intro p e s m below meth c T X hx hby hml hown hnm hret hlk hZ e0
  have hml : c.maxLocals = 7 := hml
  have K : oKp h0 h0 [xd] [] := oKp.nil _ _
  refine oWk.cast (g' := (mkF m 0 #[rv xa, iv 0, rv xd, iv 0, iv 4, uu, uu] [])) (by first | rfl | (simp [entryFrame, mkF, argsToLocals, Value.category]; done)) ?_
  refine oWk.to (mkF m 12 #[rv xa, iv 0, rv xd, iv 0, iv 4, iv 0, uu] [(.int 0), (.ref xa)]) (fun _ kt => zK X hx hby d16_0 rfl (zS X hx hby d16_1 rfl rfl (l' := #[rv xa, iv 0, rv xd, iv 0, iv 4, iv 0, uu]) rfl (zJ X hx hby d16_3 rfl rfl (zJ X hx hby d16_5 rfl rfl (zN X hx hby d16_7 rfl rfl (tlt (by decide)).2.1 (zA X hx hby d16_10 rfl rfl rfl (zI X hx hby d16_11 rfl rfl kt))))))) ?_
  refine oWk.to (mkF m 20 #[rv xa, iv 0, rv xd, iv 0, iv 4, iv 0, iv xc0] [(.int 255), (.int xc0)]) (fun _ kt => oLdC X hx hZ e0 V_xa (0 : Int32) (.int xc0) ⟨by decide, by decide⟩ rfl hby d16_12 rfl rfl (zS X hx hby d16_13 rfl rfl (l' := #[rv xa, iv 0, rv xd, iv 0, iv 4, iv 0, iv xc0]) rfl (zJ X hx hby d16_15 rfl rfl (zM X hx hby d16_17 rfl kt)))) ?_
  refine oWk.to (mkF m 31 #[rv xa, iv 0, rv xd, iv 0, iv 4, iv 0, iv xc0] [(ib xc0), (.int 0), (.ref xd)]) (fun _ kt => zY X hx hby d16_20 rfl rfl (flt hle0).2.2.2 (pc' := 26) rfl (zA X hx hby d16_26 rfl rfl rfl (zI X hx hby d16_27 rfl rfl (zJ X hx hby d16_28 rfl rfl (XS.i2b X.here hx rfl (hb hby d16_30) rfl kt))))) ?_
  obtain ⟨cl2, Ar2, q2, Sz2, Nn2, Hs2, Ft2⟩ := id V_xd
  have hin2 : ¬ ((0 : Int32) < 0 ∨ cl2.slots.size ≤ ((0 : Int32)).toNatClampNeg) := inb_of Sz2 ⟨by decide, by decide⟩
  obtain ⟨T, h, X, e0, W2, st⟩ := stB X hx hZ e0 Ar2 (j := (0 : Int32)) hin2 (g := (mkF m 31 #[rv xa, iv 0, rv xd, iv 0, iv 4, iv 0, iv xc0] [(ib xc0), (.int 0), (.ref xd)])) rfl rfl (hb hby d16_31)
  have K := K.wr W2 (Or.inl (List.mem_of_getElem? (i := 0) rfl))
  have V_xd := Arv.set Ar2 q2 Sz2 Nn2 Hs2 Ft2 (fits_nar_byte _) W2 0 rfl (Nat.le_of_ble_eq_true rfl)
  rw [oB8 xc0] at V_xd
  replace V_xd : Arv Z h xd xl .byte (4 : Int32) [(ib xc0), (.int (0 : Int32)), (.int (0 : Int32)), (.int (0 : Int32))] (.int (0 : Int32)) := V_xd
  refine oWk.to (mkF m 7 #[rv xa, iv 1, rv xd, iv 1, iv 4, iv 1, iv xc0] [(.int 4), (.int 1)]) (fun _ kt => st _ (zC X hx hby d16_32 rfl rfl (l' := #[rv xa, iv ((0 : Int32) + (1 : Int32)), rv xd, iv 0, iv 4, iv 0, iv xc0]) rfl (zC X hx hby d16_35 rfl rfl (l' := #[rv xa, iv 1, rv xd, iv ((0 : Int32) + (1 : Int32)), iv 4, iv 0, iv xc0]) rfl (zC X hx hby d16_38 rfl rfl (l' := #[rv xa, iv 1, rv xd, iv 1, iv 4, iv ((0 : Int32) + (1 : Int32)), iv xc0]) rfl (zG X hx hby d16_41 rfl (pc' := 3) rfl (zJ X hx hby d16_3 rfl rfl (zJ X hx hby d16_5 rfl rfl kt))))))) ?_
  refine oWk.st (fun _ kt => zN X hx hby d16_7 rfl rfl (tlt (by decide)).2.1 (zA X hx hby d16_10 rfl rfl rfl (zI X hx hby d16_11 rfl rfl kt))) ?_
  have V_xa := (V_xa.other W2 ne_xa_xd)
  refine oWk.to (mkF m 20 #[rv xa, iv 1, rv xd, iv 1, iv 4, iv 1, iv xc1] [(.int 255), (.int xc1)]) (fun _ kt => oLdC X hx hZ e0 V_xa (1 : Int32) (.int xc1) ⟨by decide, by decide⟩ rfl hby d16_12 rfl rfl (zS X hx hby d16_13 rfl rfl (l' := #[rv xa, iv 1, rv xd, iv 1, iv 4, iv 1, iv xc1]) rfl (zJ X hx hby d16_15 rfl rfl (zM X hx hby d16_17 rfl kt)))) ?_
  refine oWk.to (mkF m 25 #[rv xa, iv 1, rv xd, iv 1, iv 4, iv 1, iv xc1] [(.int 1)]) (fun _ kt => zN X hx hby d16_20 rfl rfl (tlt hgt).2.2.2 (zJ X hx hby d16_23 rfl rfl kt)) ?_
  exact oRetI X hx hlk hret (hb hby d16_25) (by rw [e0]; exact ⟨rfl, K⟩) (by decide) (by decide)
def Q_rC5U_4_2 (Z : State) (xa xd : Addr) (xk xl : ClassId) (xc0 xc1 xc2 xc3 : Int32) (h0 : Heap) (v : Option Value) (h : Heap) (L : List Loc) : Prop := v = some (.int (2 : Int32)) ∧ oKp h0 h [xd] L
theorem rC5U_4_2 (l : Launch) (Z : State) (a0 : Array Value) (hw : oHW a0 Z) (ws : List Jvm.Cond) (xa xd : Addr) (xk xl : ClassId) (xc0 xc1 xc2 xc3 : Int32) (h0 : Heap) (O0 : Ext Z.heap h0) (og_xd : Z.heap.size ≤ xd) (ne_xa_xd : xa ≠ xd) (V_xa : Arv Z h0 xa xk .char (4 : Int32) [(.int xc0), (.int xc1), (.int xc2), (.int xc3)] (.int (0 : Int32))) (V_xd : Arv Z h0 xd xl .byte (4 : Int32) [(.int (0 : Int32)), (.int (0 : Int32)), (.int (0 : Int32)), (.int (0 : Int32))] (.int (0 : Int32))) (hle0 : ¬ (255 : Int32) < xc0) (hle1 : ¬ (255 : Int32) < xc1) (hgt : (255 : Int32) < xc2) :
    oCon l Z yy19 jdk_52_method_21_code 7 (some .int) ws ({ frames := 0, cells := 0, slots := 0, locals := 0 } : Room) #[(.ref xa), (.int (0 : Int32)), (.ref xd), (.int (0 : Int32)), (.int (4 : Int32))] h0 (Q_rC5U_4_2 Z xa xd xk xl xc0 xc1 xc2 xc3 h0) := by
  refine oCon.of (plainFor_of_name pn_2) ?_
  intro p e s m below meth c T X hx hby hml hown hnm hret hlk hZ e0
  have hml : c.maxLocals = 7 := hml
  have K : oKp h0 h0 [xd] [] := oKp.nil _ _
  refine oWk.cast (g' := (mkF m 0 #[rv xa, iv 0, rv xd, iv 0, iv 4, uu, uu] [])) (by first | rfl | (simp [entryFrame, mkF, argsToLocals, Value.category]; done)) ?_
  refine oWk.to (mkF m 12 #[rv xa, iv 0, rv xd, iv 0, iv 4, iv 0, uu] [(.int 0), (.ref xa)]) (fun _ kt => zK X hx hby d16_0 rfl (zS X hx hby d16_1 rfl rfl (l' := #[rv xa, iv 0, rv xd, iv 0, iv 4, iv 0, uu]) rfl (zJ X hx hby d16_3 rfl rfl (zJ X hx hby d16_5 rfl rfl (zN X hx hby d16_7 rfl rfl (tlt (by decide)).2.1 (zA X hx hby d16_10 rfl rfl rfl (zI X hx hby d16_11 rfl rfl kt))))))) ?_
  refine oWk.to (mkF m 20 #[rv xa, iv 0, rv xd, iv 0, iv 4, iv 0, iv xc0] [(.int 255), (.int xc0)]) (fun _ kt => oLdC X hx hZ e0 V_xa (0 : Int32) (.int xc0) ⟨by decide, by decide⟩ rfl hby d16_12 rfl rfl (zS X hx hby d16_13 rfl rfl (l' := #[rv xa, iv 0, rv xd, iv 0, iv 4, iv 0, iv xc0]) rfl (zJ X hx hby d16_15 rfl rfl (zM X hx hby d16_17 rfl kt)))) ?_
  refine oWk.to (mkF m 31 #[rv xa, iv 0, rv xd, iv 0, iv 4, iv 0, iv xc0] [(ib xc0), (.int 0), (.ref xd)]) (fun _ kt => zY X hx hby d16_20 rfl rfl (flt hle0).2.2.2 (pc' := 26) rfl (zA X hx hby d16_26 rfl rfl rfl (zI X hx hby d16_27 rfl rfl (zJ X hx hby d16_28 rfl rfl (XS.i2b X.here hx rfl (hb hby d16_30) rfl kt))))) ?_
  obtain ⟨cl2, Ar2, q2, Sz2, Nn2, Hs2, Ft2⟩ := id V_xd
  have hin2 : ¬ ((0 : Int32) < 0 ∨ cl2.slots.size ≤ ((0 : Int32)).toNatClampNeg) := inb_of Sz2 ⟨by decide, by decide⟩
  obtain ⟨T, h, X, e0, W2, st⟩ := stB X hx hZ e0 Ar2 (j := (0 : Int32)) hin2 (g := (mkF m 31 #[rv xa, iv 0, rv xd, iv 0, iv 4, iv 0, iv xc0] [(ib xc0), (.int 0), (.ref xd)])) rfl rfl (hb hby d16_31)
  have K := K.wr W2 (Or.inl (List.mem_of_getElem? (i := 0) rfl))
  have V_xd := Arv.set Ar2 q2 Sz2 Nn2 Hs2 Ft2 (fits_nar_byte _) W2 0 rfl (Nat.le_of_ble_eq_true rfl)
  rw [oB8 xc0] at V_xd
  replace V_xd : Arv Z h xd xl .byte (4 : Int32) [(ib xc0), (.int (0 : Int32)), (.int (0 : Int32)), (.int (0 : Int32))] (.int (0 : Int32)) := V_xd
  refine oWk.to (mkF m 7 #[rv xa, iv 1, rv xd, iv 1, iv 4, iv 1, iv xc0] [(.int 4), (.int 1)]) (fun _ kt => st _ (zC X hx hby d16_32 rfl rfl (l' := #[rv xa, iv ((0 : Int32) + (1 : Int32)), rv xd, iv 0, iv 4, iv 0, iv xc0]) rfl (zC X hx hby d16_35 rfl rfl (l' := #[rv xa, iv 1, rv xd, iv ((0 : Int32) + (1 : Int32)), iv 4, iv 0, iv xc0]) rfl (zC X hx hby d16_38 rfl rfl (l' := #[rv xa, iv 1, rv xd, iv 1, iv 4, iv ((0 : Int32) + (1 : Int32)), iv xc0]) rfl (zG X hx hby d16_41 rfl (pc' := 3) rfl (zJ X hx hby d16_3 rfl rfl (zJ X hx hby d16_5 rfl rfl kt))))))) ?_
  refine oWk.st (fun _ kt => zN X hx hby d16_7 rfl rfl (tlt (by decide)).2.1 (zA X hx hby d16_10 rfl rfl rfl (zI X hx hby d16_11 rfl rfl kt))) ?_
  have V_xa := (V_xa.other W2 ne_xa_xd)
  refine oWk.to (mkF m 20 #[rv xa, iv 1, rv xd, iv 1, iv 4, iv 1, iv xc1] [(.int 255), (.int xc1)]) (fun _ kt => oLdC X hx hZ e0 V_xa (1 : Int32) (.int xc1) ⟨by decide, by decide⟩ rfl hby d16_12 rfl rfl (zS X hx hby d16_13 rfl rfl (l' := #[rv xa, iv 1, rv xd, iv 1, iv 4, iv 1, iv xc1]) rfl (zJ X hx hby d16_15 rfl rfl (zM X hx hby d16_17 rfl kt)))) ?_
  refine oWk.to (mkF m 31 #[rv xa, iv 1, rv xd, iv 1, iv 4, iv 1, iv xc1] [(ib xc1), (.int 1), (.ref xd)]) (fun _ kt => zY X hx hby d16_20 rfl rfl (flt hle1).2.2.2 (pc' := 26) rfl (zA X hx hby d16_26 rfl rfl rfl (zI X hx hby d16_27 rfl rfl (zJ X hx hby d16_28 rfl rfl (XS.i2b X.here hx rfl (hb hby d16_30) rfl kt))))) ?_
  obtain ⟨cl4, Ar4, q4, Sz4, Nn4, Hs4, Ft4⟩ := id V_xd
  have hin4 : ¬ ((1 : Int32) < 0 ∨ cl4.slots.size ≤ ((1 : Int32)).toNatClampNeg) := inb_of Sz4 ⟨by decide, by decide⟩
  obtain ⟨T, h, X, e0, W4, st⟩ := stB X hx hZ e0 Ar4 (j := (1 : Int32)) hin4 (g := (mkF m 31 #[rv xa, iv 1, rv xd, iv 1, iv 4, iv 1, iv xc1] [(ib xc1), (.int 1), (.ref xd)])) rfl rfl (hb hby d16_31)
  have K := K.wr W4 (Or.inl (List.mem_of_getElem? (i := 0) rfl))
  have V_xd := Arv.set Ar4 q4 Sz4 Nn4 Hs4 Ft4 (fits_nar_byte _) W4 1 rfl (Nat.le_of_ble_eq_true rfl)
  rw [oB8 xc1] at V_xd
  replace V_xd : Arv Z h xd xl .byte (4 : Int32) [(ib xc0), (ib xc1), (.int (0 : Int32)), (.int (0 : Int32))] (.int (0 : Int32)) := V_xd
  refine oWk.to (mkF m 7 #[rv xa, iv 2, rv xd, iv 2, iv 4, iv 2, iv xc1] [(.int 4), (.int 2)]) (fun _ kt => st _ (zC X hx hby d16_32 rfl rfl (l' := #[rv xa, iv ((1 : Int32) + (1 : Int32)), rv xd, iv 1, iv 4, iv 1, iv xc1]) rfl (zC X hx hby d16_35 rfl rfl (l' := #[rv xa, iv 2, rv xd, iv ((1 : Int32) + (1 : Int32)), iv 4, iv 1, iv xc1]) rfl (zC X hx hby d16_38 rfl rfl (l' := #[rv xa, iv 2, rv xd, iv 2, iv 4, iv ((1 : Int32) + (1 : Int32)), iv xc1]) rfl (zG X hx hby d16_41 rfl (pc' := 3) rfl (zJ X hx hby d16_3 rfl rfl (zJ X hx hby d16_5 rfl rfl kt))))))) ?_
  refine oWk.st (fun _ kt => zN X hx hby d16_7 rfl rfl (tlt (by decide)).2.1 (zA X hx hby d16_10 rfl rfl rfl (zI X hx hby d16_11 rfl rfl kt))) ?_
  have V_xa := (V_xa.other W4 ne_xa_xd)
  refine oWk.to (mkF m 20 #[rv xa, iv 2, rv xd, iv 2, iv 4, iv 2, iv xc2] [(.int 255), (.int xc2)]) (fun _ kt => oLdC X hx hZ e0 V_xa (2 : Int32) (.int xc2) ⟨by decide, by decide⟩ rfl hby d16_12 rfl rfl (zS X hx hby d16_13 rfl rfl (l' := #[rv xa, iv 2, rv xd, iv 2, iv 4, iv 2, iv xc2]) rfl (zJ X hx hby d16_15 rfl rfl (zM X hx hby d16_17 rfl kt)))) ?_
  refine oWk.to (mkF m 25 #[rv xa, iv 2, rv xd, iv 2, iv 4, iv 2, iv xc2] [(.int 2)]) (fun _ kt => zN X hx hby d16_20 rfl rfl (tlt hgt).2.2.2 (zJ X hx hby d16_23 rfl rfl kt)) ?_
  exact oRetI X hx hlk hret (hb hby d16_25) (by rw [e0]; exact ⟨rfl, K⟩) (by decide) (by decide)
def Q_rC5U_4_3 (Z : State) (xa xd : Addr) (xk xl : ClassId) (xc0 xc1 xc2 xc3 : Int32) (h0 : Heap) (v : Option Value) (h : Heap) (L : List Loc) : Prop := v = some (.int (3 : Int32)) ∧ oKp h0 h [xd] L
theorem rC5U_4_3 (l : Launch) (Z : State) (a0 : Array Value) (hw : oHW a0 Z) (ws : List Jvm.Cond) (xa xd : Addr) (xk xl : ClassId) (xc0 xc1 xc2 xc3 : Int32) (h0 : Heap) (O0 : Ext Z.heap h0) (og_xd : Z.heap.size ≤ xd) (ne_xa_xd : xa ≠ xd) (V_xa : Arv Z h0 xa xk .char (4 : Int32) [(.int xc0), (.int xc1), (.int xc2), (.int xc3)] (.int (0 : Int32))) (V_xd : Arv Z h0 xd xl .byte (4 : Int32) [(.int (0 : Int32)), (.int (0 : Int32)), (.int (0 : Int32)), (.int (0 : Int32))] (.int (0 : Int32))) (hle0 : ¬ (255 : Int32) < xc0) (hle1 : ¬ (255 : Int32) < xc1) (hle2 : ¬ (255 : Int32) < xc2) (hgt : (255 : Int32) < xc3) :
    oCon l Z yy19 jdk_52_method_21_code 7 (some .int) ws ({ frames := 0, cells := 0, slots := 0, locals := 0 } : Room) #[(.ref xa), (.int (0 : Int32)), (.ref xd), (.int (0 : Int32)), (.int (4 : Int32))] h0 (Q_rC5U_4_3 Z xa xd xk xl xc0 xc1 xc2 xc3 h0) := by
  refine oCon.of (plainFor_of_name pn_2) ?_
  intro p e s m below meth c T X hx hby hml hown hnm hret hlk hZ e0
  have hml : c.maxLocals = 7 := hml
  have K : oKp h0 h0 [xd] [] := oKp.nil _ _
  refine oWk.cast (g' := (mkF m 0 #[rv xa, iv 0, rv xd, iv 0, iv 4, uu, uu] [])) (by first | rfl | (simp [entryFrame, mkF, argsToLocals, Value.category]; done)) ?_
  refine oWk.to (mkF m 12 #[rv xa, iv 0, rv xd, iv 0, iv 4, iv 0, uu] [(.int 0), (.ref xa)]) (fun _ kt => zK X hx hby d16_0 rfl (zS X hx hby d16_1 rfl rfl (l' := #[rv xa, iv 0, rv xd, iv 0, iv 4, iv 0, uu]) rfl (zJ X hx hby d16_3 rfl rfl (zJ X hx hby d16_5 rfl rfl (zN X hx hby d16_7 rfl rfl (tlt (by decide)).2.1 (zA X hx hby d16_10 rfl rfl rfl (zI X hx hby d16_11 rfl rfl kt))))))) ?_
  refine oWk.to (mkF m 20 #[rv xa, iv 0, rv xd, iv 0, iv 4, iv 0, iv xc0] [(.int 255), (.int xc0)]) (fun _ kt => oLdC X hx hZ e0 V_xa (0 : Int32) (.int xc0) ⟨by decide, by decide⟩ rfl hby d16_12 rfl rfl (zS X hx hby d16_13 rfl rfl (l' := #[rv xa, iv 0, rv xd, iv 0, iv 4, iv 0, iv xc0]) rfl (zJ X hx hby d16_15 rfl rfl (zM X hx hby d16_17 rfl kt)))) ?_
  refine oWk.to (mkF m 31 #[rv xa, iv 0, rv xd, iv 0, iv 4, iv 0, iv xc0] [(ib xc0), (.int 0), (.ref xd)]) (fun _ kt => zY X hx hby d16_20 rfl rfl (flt hle0).2.2.2 (pc' := 26) rfl (zA X hx hby d16_26 rfl rfl rfl (zI X hx hby d16_27 rfl rfl (zJ X hx hby d16_28 rfl rfl (XS.i2b X.here hx rfl (hb hby d16_30) rfl kt))))) ?_
  obtain ⟨cl2, Ar2, q2, Sz2, Nn2, Hs2, Ft2⟩ := id V_xd
  have hin2 : ¬ ((0 : Int32) < 0 ∨ cl2.slots.size ≤ ((0 : Int32)).toNatClampNeg) := inb_of Sz2 ⟨by decide, by decide⟩
  obtain ⟨T, h, X, e0, W2, st⟩ := stB X hx hZ e0 Ar2 (j := (0 : Int32)) hin2 (g := (mkF m 31 #[rv xa, iv 0, rv xd, iv 0, iv 4, iv 0, iv xc0] [(ib xc0), (.int 0), (.ref xd)])) rfl rfl (hb hby d16_31)
  have K := K.wr W2 (Or.inl (List.mem_of_getElem? (i := 0) rfl))
  have V_xd := Arv.set Ar2 q2 Sz2 Nn2 Hs2 Ft2 (fits_nar_byte _) W2 0 rfl (Nat.le_of_ble_eq_true rfl)
  rw [oB8 xc0] at V_xd
  replace V_xd : Arv Z h xd xl .byte (4 : Int32) [(ib xc0), (.int (0 : Int32)), (.int (0 : Int32)), (.int (0 : Int32))] (.int (0 : Int32)) := V_xd
  refine oWk.to (mkF m 7 #[rv xa, iv 1, rv xd, iv 1, iv 4, iv 1, iv xc0] [(.int 4), (.int 1)]) (fun _ kt => st _ (zC X hx hby d16_32 rfl rfl (l' := #[rv xa, iv ((0 : Int32) + (1 : Int32)), rv xd, iv 0, iv 4, iv 0, iv xc0]) rfl (zC X hx hby d16_35 rfl rfl (l' := #[rv xa, iv 1, rv xd, iv ((0 : Int32) + (1 : Int32)), iv 4, iv 0, iv xc0]) rfl (zC X hx hby d16_38 rfl rfl (l' := #[rv xa, iv 1, rv xd, iv 1, iv 4, iv ((0 : Int32) + (1 : Int32)), iv xc0]) rfl (zG X hx hby d16_41 rfl (pc' := 3) rfl (zJ X hx hby d16_3 rfl rfl (zJ X hx hby d16_5 rfl rfl kt))))))) ?_
  refine oWk.st (fun _ kt => zN X hx hby d16_7 rfl rfl (tlt (by decide)).2.1 (zA X hx hby d16_10 rfl rfl rfl (zI X hx hby d16_11 rfl rfl kt))) ?_
  have V_xa := (V_xa.other W2 ne_xa_xd)
  refine oWk.to (mkF m 20 #[rv xa, iv 1, rv xd, iv 1, iv 4, iv 1, iv xc1] [(.int 255), (.int xc1)]) (fun _ kt => oLdC X hx hZ e0 V_xa (1 : Int32) (.int xc1) ⟨by decide, by decide⟩ rfl hby d16_12 rfl rfl (zS X hx hby d16_13 rfl rfl (l' := #[rv xa, iv 1, rv xd, iv 1, iv 4, iv 1, iv xc1]) rfl (zJ X hx hby d16_15 rfl rfl (zM X hx hby d16_17 rfl kt)))) ?_
  refine oWk.to (mkF m 31 #[rv xa, iv 1, rv xd, iv 1, iv 4, iv 1, iv xc1] [(ib xc1), (.int 1), (.ref xd)]) (fun _ kt => zY X hx hby d16_20 rfl rfl (flt hle1).2.2.2 (pc' := 26) rfl (zA X hx hby d16_26 rfl rfl rfl (zI X hx hby d16_27 rfl rfl (zJ X hx hby d16_28 rfl rfl (XS.i2b X.here hx rfl (hb hby d16_30) rfl kt))))) ?_
  obtain ⟨cl4, Ar4, q4, Sz4, Nn4, Hs4, Ft4⟩ := id V_xd
  have hin4 : ¬ ((1 : Int32) < 0 ∨ cl4.slots.size ≤ ((1 : Int32)).toNatClampNeg) := inb_of Sz4 ⟨by decide, by decide⟩
  obtain ⟨T, h, X, e0, W4, st⟩ := stB X hx hZ e0 Ar4 (j := (1 : Int32)) hin4 (g := (mkF m 31 #[rv xa, iv 1, rv xd, iv 1, iv 4, iv 1, iv xc1] [(ib xc1), (.int 1), (.ref xd)])) rfl rfl (hb hby d16_31)
  have K := K.wr W4 (Or.inl (List.mem_of_getElem? (i := 0) rfl))
  have V_xd := Arv.set Ar4 q4 Sz4 Nn4 Hs4 Ft4 (fits_nar_byte _) W4 1 rfl (Nat.le_of_ble_eq_true rfl)
  rw [oB8 xc1] at V_xd
  replace V_xd : Arv Z h xd xl .byte (4 : Int32) [(ib xc0), (ib xc1), (.int (0 : Int32)), (.int (0 : Int32))] (.int (0 : Int32)) := V_xd
  refine oWk.to (mkF m 7 #[rv xa, iv 2, rv xd, iv 2, iv 4, iv 2, iv xc1] [(.int 4), (.int 2)]) (fun _ kt => st _ (zC X hx hby d16_32 rfl rfl (l' := #[rv xa, iv ((1 : Int32) + (1 : Int32)), rv xd, iv 1, iv 4, iv 1, iv xc1]) rfl (zC X hx hby d16_35 rfl rfl (l' := #[rv xa, iv 2, rv xd, iv ((1 : Int32) + (1 : Int32)), iv 4, iv 1, iv xc1]) rfl (zC X hx hby d16_38 rfl rfl (l' := #[rv xa, iv 2, rv xd, iv 2, iv 4, iv ((1 : Int32) + (1 : Int32)), iv xc1]) rfl (zG X hx hby d16_41 rfl (pc' := 3) rfl (zJ X hx hby d16_3 rfl rfl (zJ X hx hby d16_5 rfl rfl kt))))))) ?_
  refine oWk.st (fun _ kt => zN X hx hby d16_7 rfl rfl (tlt (by decide)).2.1 (zA X hx hby d16_10 rfl rfl rfl (zI X hx hby d16_11 rfl rfl kt))) ?_
  have V_xa := (V_xa.other W4 ne_xa_xd)
  refine oWk.to (mkF m 20 #[rv xa, iv 2, rv xd, iv 2, iv 4, iv 2, iv xc2] [(.int 255), (.int xc2)]) (fun _ kt => oLdC X hx hZ e0 V_xa (2 : Int32) (.int xc2) ⟨by decide, by decide⟩ rfl hby d16_12 rfl rfl (zS X hx hby d16_13 rfl rfl (l' := #[rv xa, iv 2, rv xd, iv 2, iv 4, iv 2, iv xc2]) rfl (zJ X hx hby d16_15 rfl rfl (zM X hx hby d16_17 rfl kt)))) ?_
  refine oWk.to (mkF m 31 #[rv xa, iv 2, rv xd, iv 2, iv 4, iv 2, iv xc2] [(ib xc2), (.int 2), (.ref xd)]) (fun _ kt => zY X hx hby d16_20 rfl rfl (flt hle2).2.2.2 (pc' := 26) rfl (zA X hx hby d16_26 rfl rfl rfl (zI X hx hby d16_27 rfl rfl (zJ X hx hby d16_28 rfl rfl (XS.i2b X.here hx rfl (hb hby d16_30) rfl kt))))) ?_
  obtain ⟨cl6, Ar6, q6, Sz6, Nn6, Hs6, Ft6⟩ := id V_xd
  have hin6 : ¬ ((2 : Int32) < 0 ∨ cl6.slots.size ≤ ((2 : Int32)).toNatClampNeg) := inb_of Sz6 ⟨by decide, by decide⟩
  obtain ⟨T, h, X, e0, W6, st⟩ := stB X hx hZ e0 Ar6 (j := (2 : Int32)) hin6 (g := (mkF m 31 #[rv xa, iv 2, rv xd, iv 2, iv 4, iv 2, iv xc2] [(ib xc2), (.int 2), (.ref xd)])) rfl rfl (hb hby d16_31)
  have K := K.wr W6 (Or.inl (List.mem_of_getElem? (i := 0) rfl))
  have V_xd := Arv.set Ar6 q6 Sz6 Nn6 Hs6 Ft6 (fits_nar_byte _) W6 2 rfl (Nat.le_of_ble_eq_true rfl)
  rw [oB8 xc2] at V_xd
  replace V_xd : Arv Z h xd xl .byte (4 : Int32) [(ib xc0), (ib xc1), (ib xc2), (.int (0 : Int32))] (.int (0 : Int32)) := V_xd
  refine oWk.to (mkF m 7 #[rv xa, iv 3, rv xd, iv 3, iv 4, iv 3, iv xc2] [(.int 4), (.int 3)]) (fun _ kt => st _ (zC X hx hby d16_32 rfl rfl (l' := #[rv xa, iv ((2 : Int32) + (1 : Int32)), rv xd, iv 2, iv 4, iv 2, iv xc2]) rfl (zC X hx hby d16_35 rfl rfl (l' := #[rv xa, iv 3, rv xd, iv ((2 : Int32) + (1 : Int32)), iv 4, iv 2, iv xc2]) rfl (zC X hx hby d16_38 rfl rfl (l' := #[rv xa, iv 3, rv xd, iv 3, iv 4, iv ((2 : Int32) + (1 : Int32)), iv xc2]) rfl (zG X hx hby d16_41 rfl (pc' := 3) rfl (zJ X hx hby d16_3 rfl rfl (zJ X hx hby d16_5 rfl rfl kt))))))) ?_
  refine oWk.st (fun _ kt => zN X hx hby d16_7 rfl rfl (tlt (by decide)).2.1 (zA X hx hby d16_10 rfl rfl rfl (zI X hx hby d16_11 rfl rfl kt))) ?_
  have V_xa := (V_xa.other W6 ne_xa_xd)
  refine oWk.to (mkF m 20 #[rv xa, iv 3, rv xd, iv 3, iv 4, iv 3, iv xc3] [(.int 255), (.int xc3)]) (fun _ kt => oLdC X hx hZ e0 V_xa (3 : Int32) (.int xc3) ⟨by decide, by decide⟩ rfl hby d16_12 rfl rfl (zS X hx hby d16_13 rfl rfl (l' := #[rv xa, iv 3, rv xd, iv 3, iv 4, iv 3, iv xc3]) rfl (zJ X hx hby d16_15 rfl rfl (zM X hx hby d16_17 rfl kt)))) ?_
  refine oWk.to (mkF m 25 #[rv xa, iv 3, rv xd, iv 3, iv 4, iv 3, iv xc3] [(.int 3)]) (fun _ kt => zN X hx hby d16_20 rfl rfl (tlt hgt).2.2.2 (zJ X hx hby d16_23 rfl rfl kt)) ?_
  exact oRetI X hx hlk hret (hb hby d16_25) (by rw [e0]; exact ⟨rfl, K⟩) (by decide) (by decide)
theorem rNBL_4 (l : Launch) (Z : State) (a0 : Array Value) (hw : oHW a0 Z) (ws : List Jvm.Cond)  (h0 : Heap) (O0 : Ext Z.heap h0)  :
    oCon l Z yy22 jdk_52_method_3_code 1 (some .int) ws ({ frames := 0, cells := 0, slots := 0, locals := 0 } : Room) #[(.int (4 : Int32))] h0 (oPq (some (.int (8 : Int32))) h0) := by
  refine oCon.of (plainFor_of_name pn_2) ?_
  intro p e s m below meth c T X hx hby hml hown hnm hret hlk hZ e0
  have hml : c.maxLocals = 1 := hml
  have K : oKp h0 h0 [] [] := oKp.nil _ _
  refine oWk.cast (g' := (mkF m 0 #[iv 4] [])) (by first | rfl | (simp [entryFrame, mkF, argsToLocals, Value.category]; done)) ?_
  refine oWk.st (fun _ kt => zI X hx hby d20_0 rfl rfl (zF X hx hby d20_1 rfl rfl ((if0 _ _).trans (flt (by decide)).2.1) (pc' := 12) rfl (zI X hx hby d20_12 rfl rfl kt))) ?_
  refine oWk.to (mkF m 58 #[iv 4] [(.int 8)]) (fun _ kt => X.ldcI hx hown (mvT hZ (oW hw 89 rfl)) rfl (hb hby d20_13) (zY X hx hby d20_15 rfl rfl (tlt (by decide)).1 (pc' := 55) rfl (zI X hx hby d20_55 rfl rfl (zK X hx hby d20_56 rfl (XS.ishl X.here hx rfl (hb hby d20_57) rfl kt))))) ?_
  exact oRetI X hx hlk hret (hb hby d20_58) (by rw [e0]; exact ⟨rfl, rfl, K⟩) (by decide) (by decide)
def Q_rNBF_4 (Z : State)  (h0 : Heap) (v : Option Value) (h : Heap) (L : List Loc) : Prop := ∃ (nb : Addr) (nk : ClassId), v = some (.ref nb) ∧ oKp h0 h [] L ∧ (h0.size ≤ nb) ∧ (Arv Z h nb nk .byte (8 : Int32) [(.int (0 : Int32)), (.int (0 : Int32)), (.int (0 : Int32)), (.int (0 : Int32)), (.int (0 : Int32)), (.int (0 : Int32)), (.int (0 : Int32)), (.int (0 : Int32))] (.int (0 : Int32)))
theorem rNBF_4 (l : Launch) (Z : State) (a0 : Array Value) (hw : oHW a0 Z) (ws : List Jvm.Cond)  (h0 : Heap) (O0 : Ext Z.heap h0)  :
    oCon l Z yy23 jdk_52_method_2_code 1 (some (.array .byte)) ws ({ frames := 1, cells := 1, slots := 8, locals := 12 } : Room) #[(.int (4 : Int32))] h0 (Q_rNBF_4 Z  h0) := by
  refine oCon.of (plainFor_of_name pn_2) ?_
  intro p e s m below meth c T X hx hby hml hown hnm hret hlk hZ e0
  have hml : c.maxLocals = 1 := hml
  have K : oKp h0 h0 [] [] := oKp.nil _ _
  refine oWk.cast (g' := (mkF m 0 #[iv 4] [])) (by first | rfl | (simp [entryFrame, mkF, argsToLocals, Value.category]; done)) ?_
  refine oWk.st (fun _ kt => zI X hx hby d19_0 rfl rfl kt) ?_
  have Oh := K.old O0 all0
  obtain ⟨T, L2, X, e0, K, st⟩ := (cs20 hw).pure X hx hZ hown e0 K (A := [(.int (4 : Int32))]) rfl (rNBL_4 l Z a0 hw []  h0 Oh ) (W := 0) (by decide) hml (Ls := #[iv 4]) rfl (rest := []) rfl rfl hby d19_1
  refine oWk.st (fun _ kt => st _ kt) ?_
  obtain ⟨o3, g3⟩ : ∃ z, z = h0.size := ⟨_, rfl⟩
  have ge_o3 : h0.size ≤ o3 := Nat.le_trans K.le (Nat.le_of_eq g3.symm)
  obtain ⟨T, h, k3, X, e0, E3, A3, st⟩ := newP X hx hZ (oW hw 28 rfl) e0 (g := (mkF m 4 #[iv 4] [(.int 8)])) rfl (hb hby d19_4) rfl (by decide) (cap := 8) (by decide) (by decide) (by decide) (by decide)
  rw [← g3] at A3 st
  have K := K.ext E3
  have V_o3 : Arv Z h o3 k3 .byte (8 : Int32) [(.int (0 : Int32)), (.int (0 : Int32)), (.int (0 : Int32)), (.int (0 : Int32)), (.int (0 : Int32)), (.int (0 : Int32)), (.int (0 : Int32)), (.int (0 : Int32))] (.int (0 : Int32)) := (Arv.new A3 (by decide)).pad (pad_rep [] (.int (0 : Int32)) 8)
  refine oWk.to (mkF m 6 #[iv 4] [(.ref o3)]) (fun _ kt => st _ kt) ?_
  exact oRetA X hx hlk hret rfl rfl (hb hby d19_6) (by rw [e0]; exact ⟨o3, k3, rfl, K, ge_o3, V_o3⟩) (by decide) (by decide)
def Q_rPut_4_0 (Z : State) (xb : Addr) (xk : ClassId) (xp xy0 xy1 xy2 xy3 xy4 xy5 xy6 xy7 : Int32) (h0 : Heap) (v : Option Value) (h : Heap) (L : List Loc) : Prop := v = none ∧ oKp h0 h [xb] L ∧ (Arv Z h xb xk .byte (8 : Int32) [(iu0 xp), (iu8 xp), (.int xy2), (.int xy3), (.int xy4), (.int xy5), (.int xy6), (.int xy7)] (.int (0 : Int32)))
theorem rPut_4_0 (l : Launch) (Z : State) (a0 : Array Value) (hw : oHW a0 Z) (ws : List Jvm.Cond) (xb : Addr) (xk : ClassId) (xp xy0 xy1 xy2 xy3 xy4 xy5 xy6 xy7 : Int32) (h0 : Heap) (O0 : Ext Z.heap h0) (S_A : Sta Z Z.heap Y1 Y3 "Z" (.int (1 : Int32))) (S_H : Sta Z Z.heap Y1 "HI_BYTE_SHIFT" "I" (.int (0 : Int32))) (S_L : Sta Z Z.heap Y1 "LO_BYTE_SHIFT" "I" (.int (8 : Int32))) (og_xb : Z.heap.size ≤ xb) (V_xb : Arv Z h0 xb xk .byte (8 : Int32) [(.int xy0), (.int xy1), (.int xy2), (.int xy3), (.int xy4), (.int xy5), (.int xy6), (.int xy7)] (.int (0 : Int32))) :
    oCon l Z yy24 jdk_52_method_4_code 3 none ws ({ frames := 0, cells := 0, slots := 0, locals := 0 } : Room) #[(.ref xb), (.int (0 : Int32)), (.int xp)] h0 (Q_rPut_4_0 Z xb xk xp xy0 xy1 xy2 xy3 xy4 xy5 xy6 xy7 h0) := by
  refine oCon.of (plainFor_of_name pn_2) ?_
  intro p e s m below meth c T X hx hby hml hown hnm hret hlk hZ e0
  have hml : c.maxLocals = 3 := hml
  have K : oKp h0 h0 [xb] [] := oKp.nil _ _
  refine oWk.cast (g' := (mkF m 0 #[rv xb, iv 0, iv xp] [])) (by first | rfl | (simp [entryFrame, mkF, argsToLocals, Value.category]; done)) ?_
  have Oh := K.old O0 (allS og_xb all0)
  obtain ⟨T, X, e0, st⟩ := getS2 X hx hZ hown (host := "") (Or.inl (oW hw 93 rfl)) Via.refl e0 (S_A.ext Oh) (g := (mkF m 0 #[rv xb, iv 0, iv xp] [])) rfl (hb hby d21_0)
  refine oWk.to (mkF m 33 #[rv xb, iv 0, iv xp] [(.ref xb)]) (fun _ kt => st _ (zF X hx hby d21_3 rfl rfl ((if0 _ _).trans (feq (by decide)).2) (pc' := 28) rfl (zI X hx hby d21_28 rfl rfl (zK X hx hby d21_29 rfl (XS.ishl X.here hx rfl (hb hby d21_30) rfl (zSn X hx hby d21_31 rfl rfl (l' := #[rv xb, iv 0, iv xp]) rfl (zA X hx hby d21_32 rfl rfl rfl kt))))))) ?_
  refine oWk.st (fun _ kt => zI X hx hby d21_33 rfl rfl (zC X hx hby d21_34 rfl rfl (l' := #[rv xb, iv ((0 : Int32) + (1 : Int32)), iv xp]) rfl (zI X hx hby d21_37 rfl rfl kt))) ?_
  obtain ⟨T, X, e0, st⟩ := getS2 X hx hZ hown (host := "") (Or.inl (oW hw 94 rfl)) Via.refl e0 (S_H.ext Oh) (g := (mkF m 38 #[rv xb, iv 1, iv xp] [(.int xp), (.int 0), (.ref xb)])) rfl (hb hby d21_38)
  refine oWk.st (fun _ kt => st _ (XS.ishr X.here hx rfl (hb hby d21_41) rfl (XS.i2b X.here hx rfl (hb hby d21_42) rfl kt))) ?_
  obtain ⟨cl1, Ar1, q1, Sz1, Nn1, Hs1, Ft1⟩ := id V_xb
  have hin1 : ¬ ((0 : Int32) < 0 ∨ cl1.slots.size ≤ ((0 : Int32)).toNatClampNeg) := inb_of Sz1 ⟨by decide, by decide⟩
  obtain ⟨T, h, X, e0, W1, st⟩ := stB X hx hZ e0 Ar1 (j := (0 : Int32)) hin1 (g := (mkF m 43 #[rv xb, iv 1, iv xp] [(iu0 xp), (.int 0), (.ref xb)])) rfl rfl (hb hby d21_43)
  have K := K.wr W1 (Or.inl (List.mem_of_getElem? (i := 0) rfl))
  have V_xb := Arv.set Ar1 q1 Sz1 Nn1 Hs1 Ft1 (fits_nar_byte _) W1 0 rfl (Nat.le_of_ble_eq_true rfl)
  rw [oB8 (xp >>> ((0 : Int32) &&& 31))] at V_xb
  replace V_xb : Arv Z h xb xk .byte (8 : Int32) [(iu0 xp), (.int xy1), (.int xy2), (.int xy3), (.int xy4), (.int xy5), (.int xy6), (.int xy7)] (.int (0 : Int32)) := V_xb
  refine oWk.st (fun _ kt => st _ (zA X hx hby d21_44 rfl rfl rfl (zI X hx hby d21_45 rfl rfl (zI X hx hby d21_46 rfl rfl kt)))) ?_
  have Oh := K.old O0 (allS og_xb all0)
  obtain ⟨T, X, e0, st⟩ := getS2 X hx hZ hown (host := "") (Or.inl (oW hw 95 rfl)) Via.refl e0 (S_L.ext Oh) (g := (mkF m 47 #[rv xb, iv 1, iv xp] [(.int xp), (.int 1), (.ref xb)])) rfl (hb hby d21_47)
  refine oWk.st (fun _ kt => st _ (XS.ishr X.here hx rfl (hb hby d21_50) rfl (XS.i2b X.here hx rfl (hb hby d21_51) rfl kt))) ?_
  obtain ⟨cl2, Ar2, q2, Sz2, Nn2, Hs2, Ft2⟩ := id V_xb
  have hin2 : ¬ ((1 : Int32) < 0 ∨ cl2.slots.size ≤ ((1 : Int32)).toNatClampNeg) := inb_of Sz2 ⟨by decide, by decide⟩
  obtain ⟨T, h, X, e0, W2, st⟩ := stB X hx hZ e0 Ar2 (j := (1 : Int32)) hin2 (g := (mkF m 52 #[rv xb, iv 1, iv xp] [(iu8 xp), (.int 1), (.ref xb)])) rfl rfl (hb hby d21_52)
  have K := K.wr W2 (Or.inl (List.mem_of_getElem? (i := 0) rfl))
  have V_xb := Arv.set Ar2 q2 Sz2 Nn2 Hs2 Ft2 (fits_nar_byte _) W2 1 rfl (Nat.le_of_ble_eq_true rfl)
  rw [oB8 (xp >>> ((8 : Int32) &&& 31))] at V_xb
  replace V_xb : Arv Z h xb xk .byte (8 : Int32) [(iu0 xp), (iu8 xp), (.int xy2), (.int xy3), (.int xy4), (.int xy5), (.int xy6), (.int xy7)] (.int (0 : Int32)) := V_xb
  refine oWk.to (mkF m 53 #[rv xb, iv 1, iv xp] []) (fun _ kt => st _ kt) ?_
  exact oRetV X hx hlk hret (hb hby d21_53) (by rw [e0]; exact ⟨rfl, K, V_xb⟩) (by decide) (by decide)
def Q_rPut_4_1 (Z : State) (xb : Addr) (xk : ClassId) (xp xy0 xy1 xy2 xy3 xy4 xy5 xy6 xy7 : Int32) (h0 : Heap) (v : Option Value) (h : Heap) (L : List Loc) : Prop := v = none ∧ oKp h0 h [xb] L ∧ (Arv Z h xb xk .byte (8 : Int32) [(.int xy0), (.int xy1), (iu0 xp), (iu8 xp), (.int xy4), (.int xy5), (.int xy6), (.int xy7)] (.int (0 : Int32)))
theorem rPut_4_1 (l : Launch) (Z : State) (a0 : Array Value) (hw : oHW a0 Z) (ws : List Jvm.Cond) (xb : Addr) (xk : ClassId) (xp xy0 xy1 xy2 xy3 xy4 xy5 xy6 xy7 : Int32) (h0 : Heap) (O0 : Ext Z.heap h0) (S_A : Sta Z Z.heap Y1 Y3 "Z" (.int (1 : Int32))) (S_H : Sta Z Z.heap Y1 "HI_BYTE_SHIFT" "I" (.int (0 : Int32))) (S_L : Sta Z Z.heap Y1 "LO_BYTE_SHIFT" "I" (.int (8 : Int32))) (og_xb : Z.heap.size ≤ xb) (V_xb : Arv Z h0 xb xk .byte (8 : Int32) [(.int xy0), (.int xy1), (.int xy2), (.int xy3), (.int xy4), (.int xy5), (.int xy6), (.int xy7)] (.int (0 : Int32))) :
    oCon l Z yy24 jdk_52_method_4_code 3 none ws ({ frames := 0, cells := 0, slots := 0, locals := 0 } : Room) #[(.ref xb), (.int (1 : Int32)), (.int xp)] h0 (Q_rPut_4_1 Z xb xk xp xy0 xy1 xy2 xy3 xy4 xy5 xy6 xy7 h0) := by
  refine oCon.of (plainFor_of_name pn_2) ?_
  intro p e s m below meth c T X hx hby hml hown hnm hret hlk hZ e0
  have hml : c.maxLocals = 3 := hml
  have K : oKp h0 h0 [xb] [] := oKp.nil _ _
  refine oWk.cast (g' := (mkF m 0 #[rv xb, iv 1, iv xp] [])) (by first | rfl | (simp [entryFrame, mkF, argsToLocals, Value.category]; done)) ?_
  have Oh := K.old O0 (allS og_xb all0)
  obtain ⟨T, X, e0, st⟩ := getS2 X hx hZ hown (host := "") (Or.inl (oW hw 93 rfl)) Via.refl e0 (S_A.ext Oh) (g := (mkF m 0 #[rv xb, iv 1, iv xp] [])) rfl (hb hby d21_0)
  refine oWk.to (mkF m 33 #[rv xb, iv 2, iv xp] [(.ref xb)]) (fun _ kt => st _ (zF X hx hby d21_3 rfl rfl ((if0 _ _).trans (feq (by decide)).2) (pc' := 28) rfl (zI X hx hby d21_28 rfl rfl (zK X hx hby d21_29 rfl (XS.ishl X.here hx rfl (hb hby d21_30) rfl (zSn X hx hby d21_31 rfl rfl (l' := #[rv xb, iv 2, iv xp]) rfl (zA X hx hby d21_32 rfl rfl rfl kt))))))) ?_
  refine oWk.st (fun _ kt => zI X hx hby d21_33 rfl rfl (zC X hx hby d21_34 rfl rfl (l' := #[rv xb, iv ((2 : Int32) + (1 : Int32)), iv xp]) rfl (zI X hx hby d21_37 rfl rfl kt))) ?_
  obtain ⟨T, X, e0, st⟩ := getS2 X hx hZ hown (host := "") (Or.inl (oW hw 94 rfl)) Via.refl e0 (S_H.ext Oh) (g := (mkF m 38 #[rv xb, iv 3, iv xp] [(.int xp), (.int 2), (.ref xb)])) rfl (hb hby d21_38)
  refine oWk.st (fun _ kt => st _ (XS.ishr X.here hx rfl (hb hby d21_41) rfl (XS.i2b X.here hx rfl (hb hby d21_42) rfl kt))) ?_
  obtain ⟨cl1, Ar1, q1, Sz1, Nn1, Hs1, Ft1⟩ := id V_xb
  have hin1 : ¬ ((2 : Int32) < 0 ∨ cl1.slots.size ≤ ((2 : Int32)).toNatClampNeg) := inb_of Sz1 ⟨by decide, by decide⟩
  obtain ⟨T, h, X, e0, W1, st⟩ := stB X hx hZ e0 Ar1 (j := (2 : Int32)) hin1 (g := (mkF m 43 #[rv xb, iv 3, iv xp] [(iu0 xp), (.int 2), (.ref xb)])) rfl rfl (hb hby d21_43)
  have K := K.wr W1 (Or.inl (List.mem_of_getElem? (i := 0) rfl))
  have V_xb := Arv.set Ar1 q1 Sz1 Nn1 Hs1 Ft1 (fits_nar_byte _) W1 2 rfl (Nat.le_of_ble_eq_true rfl)
  rw [oB8 (xp >>> ((0 : Int32) &&& 31))] at V_xb
  replace V_xb : Arv Z h xb xk .byte (8 : Int32) [(.int xy0), (.int xy1), (iu0 xp), (.int xy3), (.int xy4), (.int xy5), (.int xy6), (.int xy7)] (.int (0 : Int32)) := V_xb
  refine oWk.st (fun _ kt => st _ (zA X hx hby d21_44 rfl rfl rfl (zI X hx hby d21_45 rfl rfl (zI X hx hby d21_46 rfl rfl kt)))) ?_
  have Oh := K.old O0 (allS og_xb all0)
  obtain ⟨T, X, e0, st⟩ := getS2 X hx hZ hown (host := "") (Or.inl (oW hw 95 rfl)) Via.refl e0 (S_L.ext Oh) (g := (mkF m 47 #[rv xb, iv 3, iv xp] [(.int xp), (.int 3), (.ref xb)])) rfl (hb hby d21_47)
  refine oWk.st (fun _ kt => st _ (XS.ishr X.here hx rfl (hb hby d21_50) rfl (XS.i2b X.here hx rfl (hb hby d21_51) rfl kt))) ?_
  obtain ⟨cl2, Ar2, q2, Sz2, Nn2, Hs2, Ft2⟩ := id V_xb
  have hin2 : ¬ ((3 : Int32) < 0 ∨ cl2.slots.size ≤ ((3 : Int32)).toNatClampNeg) := inb_of Sz2 ⟨by decide, by decide⟩
  obtain ⟨T, h, X, e0, W2, st⟩ := stB X hx hZ e0 Ar2 (j := (3 : Int32)) hin2 (g := (mkF m 52 #[rv xb, iv 3, iv xp] [(iu8 xp), (.int 3), (.ref xb)])) rfl rfl (hb hby d21_52)
  have K := K.wr W2 (Or.inl (List.mem_of_getElem? (i := 0) rfl))
  have V_xb := Arv.set Ar2 q2 Sz2 Nn2 Hs2 Ft2 (fits_nar_byte _) W2 3 rfl (Nat.le_of_ble_eq_true rfl)
  rw [oB8 (xp >>> ((8 : Int32) &&& 31))] at V_xb
  replace V_xb : Arv Z h xb xk .byte (8 : Int32) [(.int xy0), (.int xy1), (iu0 xp), (iu8 xp), (.int xy4), (.int xy5), (.int xy6), (.int xy7)] (.int (0 : Int32)) := V_xb
  refine oWk.to (mkF m 53 #[rv xb, iv 3, iv xp] []) (fun _ kt => st _ kt) ?_
  exact oRetV X hx hlk hret (hb hby d21_53) (by rw [e0]; exact ⟨rfl, K, V_xb⟩) (by decide) (by decide)
def Q_rPut_4_2 (Z : State) (xb : Addr) (xk : ClassId) (xp xy0 xy1 xy2 xy3 xy4 xy5 xy6 xy7 : Int32) (h0 : Heap) (v : Option Value) (h : Heap) (L : List Loc) : Prop := v = none ∧ oKp h0 h [xb] L ∧ (Arv Z h xb xk .byte (8 : Int32) [(.int xy0), (.int xy1), (.int xy2), (.int xy3), (iu0 xp), (iu8 xp), (.int xy6), (.int xy7)] (.int (0 : Int32)))
theorem rPut_4_2 (l : Launch) (Z : State) (a0 : Array Value) (hw : oHW a0 Z) (ws : List Jvm.Cond) (xb : Addr) (xk : ClassId) (xp xy0 xy1 xy2 xy3 xy4 xy5 xy6 xy7 : Int32) (h0 : Heap) (O0 : Ext Z.heap h0) (S_A : Sta Z Z.heap Y1 Y3 "Z" (.int (1 : Int32))) (S_H : Sta Z Z.heap Y1 "HI_BYTE_SHIFT" "I" (.int (0 : Int32))) (S_L : Sta Z Z.heap Y1 "LO_BYTE_SHIFT" "I" (.int (8 : Int32))) (og_xb : Z.heap.size ≤ xb) (V_xb : Arv Z h0 xb xk .byte (8 : Int32) [(.int xy0), (.int xy1), (.int xy2), (.int xy3), (.int xy4), (.int xy5), (.int xy6), (.int xy7)] (.int (0 : Int32))) :
    oCon l Z yy24 jdk_52_method_4_code 3 none ws ({ frames := 0, cells := 0, slots := 0, locals := 0 } : Room) #[(.ref xb), (.int (2 : Int32)), (.int xp)] h0 (Q_rPut_4_2 Z xb xk xp xy0 xy1 xy2 xy3 xy4 xy5 xy6 xy7 h0) := by
  refine oCon.of (plainFor_of_name pn_2) ?_
  intro p e s m below meth c T X hx hby hml hown hnm hret hlk hZ e0
  have hml : c.maxLocals = 3 := hml
  have K : oKp h0 h0 [xb] [] := oKp.nil _ _
  refine oWk.cast (g' := (mkF m 0 #[rv xb, iv 2, iv xp] [])) (by first | rfl | (simp [entryFrame, mkF, argsToLocals, Value.category]; done)) ?_
  have Oh := K.old O0 (allS og_xb all0)
  obtain ⟨T, X, e0, st⟩ := getS2 X hx hZ hown (host := "") (Or.inl (oW hw 93 rfl)) Via.refl e0 (S_A.ext Oh) (g := (mkF m 0 #[rv xb, iv 2, iv xp] [])) rfl (hb hby d21_0)
  refine oWk.to (mkF m 33 #[rv xb, iv 4, iv xp] [(.ref xb)]) (fun _ kt => st _ (zF X hx hby d21_3 rfl rfl ((if0 _ _).trans (feq (by decide)).2) (pc' := 28) rfl (zI X hx hby d21_28 rfl rfl (zK X hx hby d21_29 rfl (XS.ishl X.here hx rfl (hb hby d21_30) rfl (zSn X hx hby d21_31 rfl rfl (l' := #[rv xb, iv 4, iv xp]) rfl (zA X hx hby d21_32 rfl rfl rfl kt))))))) ?_
  refine oWk.st (fun _ kt => zI X hx hby d21_33 rfl rfl (zC X hx hby d21_34 rfl rfl (l' := #[rv xb, iv ((4 : Int32) + (1 : Int32)), iv xp]) rfl (zI X hx hby d21_37 rfl rfl kt))) ?_
  obtain ⟨T, X, e0, st⟩ := getS2 X hx hZ hown (host := "") (Or.inl (oW hw 94 rfl)) Via.refl e0 (S_H.ext Oh) (g := (mkF m 38 #[rv xb, iv 5, iv xp] [(.int xp), (.int 4), (.ref xb)])) rfl (hb hby d21_38)
  refine oWk.st (fun _ kt => st _ (XS.ishr X.here hx rfl (hb hby d21_41) rfl (XS.i2b X.here hx rfl (hb hby d21_42) rfl kt))) ?_
  obtain ⟨cl1, Ar1, q1, Sz1, Nn1, Hs1, Ft1⟩ := id V_xb
  have hin1 : ¬ ((4 : Int32) < 0 ∨ cl1.slots.size ≤ ((4 : Int32)).toNatClampNeg) := inb_of Sz1 ⟨by decide, by decide⟩
  obtain ⟨T, h, X, e0, W1, st⟩ := stB X hx hZ e0 Ar1 (j := (4 : Int32)) hin1 (g := (mkF m 43 #[rv xb, iv 5, iv xp] [(iu0 xp), (.int 4), (.ref xb)])) rfl rfl (hb hby d21_43)
  have K := K.wr W1 (Or.inl (List.mem_of_getElem? (i := 0) rfl))
  have V_xb := Arv.set Ar1 q1 Sz1 Nn1 Hs1 Ft1 (fits_nar_byte _) W1 4 rfl (Nat.le_of_ble_eq_true rfl)
  rw [oB8 (xp >>> ((0 : Int32) &&& 31))] at V_xb
  replace V_xb : Arv Z h xb xk .byte (8 : Int32) [(.int xy0), (.int xy1), (.int xy2), (.int xy3), (iu0 xp), (.int xy5), (.int xy6), (.int xy7)] (.int (0 : Int32)) := V_xb
  refine oWk.st (fun _ kt => st _ (zA X hx hby d21_44 rfl rfl rfl (zI X hx hby d21_45 rfl rfl (zI X hx hby d21_46 rfl rfl kt)))) ?_
  have Oh := K.old O0 (allS og_xb all0)
  obtain ⟨T, X, e0, st⟩ := getS2 X hx hZ hown (host := "") (Or.inl (oW hw 95 rfl)) Via.refl e0 (S_L.ext Oh) (g := (mkF m 47 #[rv xb, iv 5, iv xp] [(.int xp), (.int 5), (.ref xb)])) rfl (hb hby d21_47)
  refine oWk.st (fun _ kt => st _ (XS.ishr X.here hx rfl (hb hby d21_50) rfl (XS.i2b X.here hx rfl (hb hby d21_51) rfl kt))) ?_
  obtain ⟨cl2, Ar2, q2, Sz2, Nn2, Hs2, Ft2⟩ := id V_xb
  have hin2 : ¬ ((5 : Int32) < 0 ∨ cl2.slots.size ≤ ((5 : Int32)).toNatClampNeg) := inb_of Sz2 ⟨by decide, by decide⟩
  obtain ⟨T, h, X, e0, W2, st⟩ := stB X hx hZ e0 Ar2 (j := (5 : Int32)) hin2 (g := (mkF m 52 #[rv xb, iv 5, iv xp] [(iu8 xp), (.int 5), (.ref xb)])) rfl rfl (hb hby d21_52)
  have K := K.wr W2 (Or.inl (List.mem_of_getElem? (i := 0) rfl))
  have V_xb := Arv.set Ar2 q2 Sz2 Nn2 Hs2 Ft2 (fits_nar_byte _) W2 5 rfl (Nat.le_of_ble_eq_true rfl)
  rw [oB8 (xp >>> ((8 : Int32) &&& 31))] at V_xb
  replace V_xb : Arv Z h xb xk .byte (8 : Int32) [(.int xy0), (.int xy1), (.int xy2), (.int xy3), (iu0 xp), (iu8 xp), (.int xy6), (.int xy7)] (.int (0 : Int32)) := V_xb
  refine oWk.to (mkF m 53 #[rv xb, iv 5, iv xp] []) (fun _ kt => st _ kt) ?_
  exact oRetV X hx hlk hret (hb hby d21_53) (by rw [e0]; exact ⟨rfl, K, V_xb⟩) (by decide) (by decide)
def Q_rPut_4_3 (Z : State) (xb : Addr) (xk : ClassId) (xp xy0 xy1 xy2 xy3 xy4 xy5 xy6 xy7 : Int32) (h0 : Heap) (v : Option Value) (h : Heap) (L : List Loc) : Prop := v = none ∧ oKp h0 h [xb] L ∧ (Arv Z h xb xk .byte (8 : Int32) [(.int xy0), (.int xy1), (.int xy2), (.int xy3), (.int xy4), (.int xy5), (iu0 xp), (iu8 xp)] (.int (0 : Int32)))
theorem rPut_4_3 (l : Launch) (Z : State) (a0 : Array Value) (hw : oHW a0 Z) (ws : List Jvm.Cond) (xb : Addr) (xk : ClassId) (xp xy0 xy1 xy2 xy3 xy4 xy5 xy6 xy7 : Int32) (h0 : Heap) (O0 : Ext Z.heap h0) (S_A : Sta Z Z.heap Y1 Y3 "Z" (.int (1 : Int32))) (S_H : Sta Z Z.heap Y1 "HI_BYTE_SHIFT" "I" (.int (0 : Int32))) (S_L : Sta Z Z.heap Y1 "LO_BYTE_SHIFT" "I" (.int (8 : Int32))) (og_xb : Z.heap.size ≤ xb) (V_xb : Arv Z h0 xb xk .byte (8 : Int32) [(.int xy0), (.int xy1), (.int xy2), (.int xy3), (.int xy4), (.int xy5), (.int xy6), (.int xy7)] (.int (0 : Int32))) :
    oCon l Z yy24 jdk_52_method_4_code 3 none ws ({ frames := 0, cells := 0, slots := 0, locals := 0 } : Room) #[(.ref xb), (.int (3 : Int32)), (.int xp)] h0 (Q_rPut_4_3 Z xb xk xp xy0 xy1 xy2 xy3 xy4 xy5 xy6 xy7 h0) := by
  refine oCon.of (plainFor_of_name pn_2) ?_
  intro p e s m below meth c T X hx hby hml hown hnm hret hlk hZ e0
  have hml : c.maxLocals = 3 := hml
  have K : oKp h0 h0 [xb] [] := oKp.nil _ _
  refine oWk.cast (g' := (mkF m 0 #[rv xb, iv 3, iv xp] [])) (by first | rfl | (simp [entryFrame, mkF, argsToLocals, Value.category]; done)) ?_
  have Oh := K.old O0 (allS og_xb all0)
  obtain ⟨T, X, e0, st⟩ := getS2 X hx hZ hown (host := "") (Or.inl (oW hw 93 rfl)) Via.refl e0 (S_A.ext Oh) (g := (mkF m 0 #[rv xb, iv 3, iv xp] [])) rfl (hb hby d21_0)
  refine oWk.to (mkF m 33 #[rv xb, iv 6, iv xp] [(.ref xb)]) (fun _ kt => st _ (zF X hx hby d21_3 rfl rfl ((if0 _ _).trans (feq (by decide)).2) (pc' := 28) rfl (zI X hx hby d21_28 rfl rfl (zK X hx hby d21_29 rfl (XS.ishl X.here hx rfl (hb hby d21_30) rfl (zSn X hx hby d21_31 rfl rfl (l' := #[rv xb, iv 6, iv xp]) rfl (zA X hx hby d21_32 rfl rfl rfl kt))))))) ?_
  refine oWk.st (fun _ kt => zI X hx hby d21_33 rfl rfl (zC X hx hby d21_34 rfl rfl (l' := #[rv xb, iv ((6 : Int32) + (1 : Int32)), iv xp]) rfl (zI X hx hby d21_37 rfl rfl kt))) ?_
  obtain ⟨T, X, e0, st⟩ := getS2 X hx hZ hown (host := "") (Or.inl (oW hw 94 rfl)) Via.refl e0 (S_H.ext Oh) (g := (mkF m 38 #[rv xb, iv 7, iv xp] [(.int xp), (.int 6), (.ref xb)])) rfl (hb hby d21_38)
  refine oWk.st (fun _ kt => st _ (XS.ishr X.here hx rfl (hb hby d21_41) rfl (XS.i2b X.here hx rfl (hb hby d21_42) rfl kt))) ?_
  obtain ⟨cl1, Ar1, q1, Sz1, Nn1, Hs1, Ft1⟩ := id V_xb
  have hin1 : ¬ ((6 : Int32) < 0 ∨ cl1.slots.size ≤ ((6 : Int32)).toNatClampNeg) := inb_of Sz1 ⟨by decide, by decide⟩
  obtain ⟨T, h, X, e0, W1, st⟩ := stB X hx hZ e0 Ar1 (j := (6 : Int32)) hin1 (g := (mkF m 43 #[rv xb, iv 7, iv xp] [(iu0 xp), (.int 6), (.ref xb)])) rfl rfl (hb hby d21_43)
  have K := K.wr W1 (Or.inl (List.mem_of_getElem? (i := 0) rfl))
  have V_xb := Arv.set Ar1 q1 Sz1 Nn1 Hs1 Ft1 (fits_nar_byte _) W1 6 rfl (Nat.le_of_ble_eq_true rfl)
  rw [oB8 (xp >>> ((0 : Int32) &&& 31))] at V_xb
  replace V_xb : Arv Z h xb xk .byte (8 : Int32) [(.int xy0), (.int xy1), (.int xy2), (.int xy3), (.int xy4), (.int xy5), (iu0 xp), (.int xy7)] (.int (0 : Int32)) := V_xb
  refine oWk.st (fun _ kt => st _ (zA X hx hby d21_44 rfl rfl rfl (zI X hx hby d21_45 rfl rfl (zI X hx hby d21_46 rfl rfl kt)))) ?_
  have Oh := K.old O0 (allS og_xb all0)
  obtain ⟨T, X, e0, st⟩ := getS2 X hx hZ hown (host := "") (Or.inl (oW hw 95 rfl)) Via.refl e0 (S_L.ext Oh) (g := (mkF m 47 #[rv xb, iv 7, iv xp] [(.int xp), (.int 7), (.ref xb)])) rfl (hb hby d21_47)
  refine oWk.st (fun _ kt => st _ (XS.ishr X.here hx rfl (hb hby d21_50) rfl (XS.i2b X.here hx rfl (hb hby d21_51) rfl kt))) ?_
  obtain ⟨cl2, Ar2, q2, Sz2, Nn2, Hs2, Ft2⟩ := id V_xb
  have hin2 : ¬ ((7 : Int32) < 0 ∨ cl2.slots.size ≤ ((7 : Int32)).toNatClampNeg) := inb_of Sz2 ⟨by decide, by decide⟩
  obtain ⟨T, h, X, e0, W2, st⟩ := stB X hx hZ e0 Ar2 (j := (7 : Int32)) hin2 (g := (mkF m 52 #[rv xb, iv 7, iv xp] [(iu8 xp), (.int 7), (.ref xb)])) rfl rfl (hb hby d21_52)
  have K := K.wr W2 (Or.inl (List.mem_of_getElem? (i := 0) rfl))
  have V_xb := Arv.set Ar2 q2 Sz2 Nn2 Hs2 Ft2 (fits_nar_byte _) W2 7 rfl (Nat.le_of_ble_eq_true rfl)
  rw [oB8 (xp >>> ((8 : Int32) &&& 31))] at V_xb
  replace V_xb : Arv Z h xb xk .byte (8 : Int32) [(.int xy0), (.int xy1), (.int xy2), (.int xy3), (.int xy4), (.int xy5), (iu0 xp), (iu8 xp)] (.int (0 : Int32)) := V_xb
  refine oWk.to (mkF m 53 #[rv xb, iv 7, iv xp] []) (fun _ kt => st _ kt) ?_
  exact oRetV X hx hlk hret (hb hby d21_53) (by rw [e0]; exact ⟨rfl, K, V_xb⟩) (by decide) (by decide)
def Q_rTBU_4 (Z : State) (xa : Addr) (xk : ClassId) (xc0 xc1 xc2 xc3 : Int32) (h0 : Heap) (v : Option Value) (h : Heap) (L : List Loc) : Prop := ∃ (nb : Addr) (nk : ClassId), v = some (.ref nb) ∧ oKp h0 h [] L ∧ (h0.size ≤ nb) ∧ (Arv Z h nb nk .byte (8 : Int32) [(iu0 xc0), (iu8 xc0), (iu0 xc1), (iu8 xc1), (iu0 xc2), (iu8 xc2), (iu0 xc3), (iu8 xc3)] (.int (0 : Int32)))
theorem rTBU_4 (l : Launch) (Z : State) (a0 : Array Value) (hw : oHW a0 Z) (ws : List Jvm.Cond) (xa : Addr) (xk : ClassId) (xc0 xc1 xc2 xc3 : Int32) (h0 : Heap) (O0 : Ext Z.heap h0) (S_A : Sta Z Z.heap Y1 Y3 "Z" (.int (1 : Int32))) (S_H : Sta Z Z.heap Y1 "HI_BYTE_SHIFT" "I" (.int (0 : Int32))) (S_L : Sta Z Z.heap Y1 "LO_BYTE_SHIFT" "I" (.int (8 : Int32))) (V_xa : Arv Z h0 xa xk .char (4 : Int32) [(.int xc0), (.int xc1), (.int xc2), (.int xc3)] (.int (0 : Int32))) :
    oCon l Z yy25 jdk_52_method_14_code 5 (some (.array .byte)) ws ({ frames := 2, cells := 1, slots := 8, locals := 24 } : Room) #[(.ref xa), (.int (0 : Int32)), (.int (4 : Int32))] h0 (Q_rTBU_4 Z xa xk xc0 xc1 xc2 xc3 h0) := by
  refine oCon.of (plainFor_of_name pn_2) ?_
  intro p e s m below meth c T X hx hby hml hown hnm hret hlk hZ e0
  have hml : c.maxLocals = 5 := hml
  have K : oKp h0 h0 [] [] := oKp.nil _ _
  refine oWk.cast (g' := (mkF m 0 #[rv xa, iv 0, iv 4, uu, uu] [])) (by first | rfl | (simp [entryFrame, mkF, argsToLocals, Value.category]; done)) ?_
  refine oWk.st (fun _ kt => zI X hx hby d18_0 rfl rfl kt) ?_
  have lt_xa := V_xa.lt
  have Oh := K.old O0 all0
  obtain ⟨_, T, h, Lc2, X, e0, hQ, st⟩ := (cs21 hw).run X hx hZ hown e0 (A := [(.int (4 : Int32))]) rfl (rNBF_4 l Z a0 hw []  h0 Oh ) (W := 0) (by decide) hml (Ls := #[rv xa, iv 0, iv 4, uu, uu]) rfl (rest := []) rfl rfl hby d18_1
  obtain ⟨nb1, nk1, rfl, K1, gn_nb1, V_nb1⟩ := hQ
  have ge_nb1 := Nat.le_trans K.le gn_nb1
  have ne_xa_nb1 : xa ≠ nb1 := Nat.ne_of_lt (Nat.lt_of_lt_of_le lt_xa gn_nb1)
  have K := K.call K1 all0
  refine oWk.to (mkF m 14 #[rv xa, iv 0, iv 4, rv nb1, iv 0] []) (fun _ kt => st _ (zTn X hx hby d18_4 rfl rfl rfl (l' := #[rv xa, iv 0, iv 4, rv nb1, uu]) rfl (zK X hx hby d18_5 rfl (zS X hx hby d18_6 rfl rfl (l' := #[rv xa, iv 0, iv 4, rv nb1, iv 0]) rfl (zJ X hx hby d18_8 rfl rfl (zI X hx hby d18_10 rfl rfl (zN X hx hby d18_11 rfl rfl (tlt (by decide)).2.1 kt))))))) ?_
  refine oWk.st (fun _ kt => zA X hx hby d18_14 rfl rfl rfl (zJ X hx hby d18_15 rfl rfl (zA X hx hby d18_17 rfl rfl rfl (zI X hx hby d18_18 rfl rfl kt)))) ?_
  have V_xa := (V_xa.keep K1.1 nin0)
  refine oWk.st (fun _ kt => oLdC X hx hZ e0 V_xa (0 : Int32) (.int xc0) ⟨by decide, by decide⟩ rfl hby d18_19 rfl rfl kt) ?_
  have Oh := K.old O0 all0
  obtain ⟨_, T, h, Lc5, X, e0, hQ, st⟩ := (cs22 hw).run X hx hZ hown e0 (A := [(.ref nb1), (.int (0 : Int32)), (.int xc0)]) rfl (rPut_4_0 l Z a0 hw [] nb1 nk1 xc0 (0 : Int32) (0 : Int32) (0 : Int32) (0 : Int32) (0 : Int32) (0 : Int32) (0 : Int32) (0 : Int32) h Oh S_A S_H S_L (Nat.le_trans O0.1 ge_nb1) V_nb1) (W := 0) (by decide) hml (Ls := #[rv xa, iv 0, iv 4, rv nb1, iv 0]) rfl (rest := []) rfl rfl hby d18_20
  obtain ⟨rfl, K4, V_nb1⟩ := hQ
  have K := K.call K4 (allS (Or.inr ge_nb1) all0)
  refine oWk.to (mkF m 14 #[rv xa, iv 1, iv 4, rv nb1, iv 1] []) (fun _ kt => st _ (zC X hx hby d18_23 rfl rfl (l' := #[rv xa, iv ((0 : Int32) + (1 : Int32)), iv 4, rv nb1, iv 0]) rfl (zC X hx hby d18_26 rfl rfl (l' := #[rv xa, iv 1, iv 4, rv nb1, iv ((0 : Int32) + (1 : Int32))]) rfl (zG X hx hby d18_29 rfl (pc' := 8) rfl (zJ X hx hby d18_8 rfl rfl (zI X hx hby d18_10 rfl rfl (zN X hx hby d18_11 rfl rfl (tlt (by decide)).2.1 kt))))))) ?_
  refine oWk.st (fun _ kt => zA X hx hby d18_14 rfl rfl rfl (zJ X hx hby d18_15 rfl rfl (zA X hx hby d18_17 rfl rfl rfl (zI X hx hby d18_18 rfl rfl kt)))) ?_
  have V_xa := (V_xa.keep K4.1 (ninS ne_xa_nb1 nin0))
  refine oWk.st (fun _ kt => oLdC X hx hZ e0 V_xa (1 : Int32) (.int xc1) ⟨by decide, by decide⟩ rfl hby d18_19 rfl rfl kt) ?_
  have Oh := K.old O0 all0
  obtain ⟨_, T, h, Lc8, X, e0, hQ, st⟩ := (cs22 hw).run X hx hZ hown e0 (A := [(.ref nb1), (.int (1 : Int32)), (.int xc1)]) rfl (rPut_4_1 l Z a0 hw [] nb1 nk1 xc1 ((xc0 >>> ((0 : Int32) &&& 31)).toInt8.toInt32) ((xc0 >>> ((8 : Int32) &&& 31)).toInt8.toInt32) (0 : Int32) (0 : Int32) (0 : Int32) (0 : Int32) (0 : Int32) (0 : Int32) h Oh S_A S_H S_L (Nat.le_trans O0.1 ge_nb1) V_nb1) (W := 0) (by decide) hml (Ls := #[rv xa, iv 1, iv 4, rv nb1, iv 1]) rfl (rest := []) rfl rfl hby d18_20
  obtain ⟨rfl, K7, V_nb1⟩ := hQ
  have K := K.call K7 (allS (Or.inr ge_nb1) all0)
  refine oWk.to (mkF m 14 #[rv xa, iv 2, iv 4, rv nb1, iv 2] []) (fun _ kt => st _ (zC X hx hby d18_23 rfl rfl (l' := #[rv xa, iv ((1 : Int32) + (1 : Int32)), iv 4, rv nb1, iv 1]) rfl (zC X hx hby d18_26 rfl rfl (l' := #[rv xa, iv 2, iv 4, rv nb1, iv ((1 : Int32) + (1 : Int32))]) rfl (zG X hx hby d18_29 rfl (pc' := 8) rfl (zJ X hx hby d18_8 rfl rfl (zI X hx hby d18_10 rfl rfl (zN X hx hby d18_11 rfl rfl (tlt (by decide)).2.1 kt))))))) ?_
  refine oWk.st (fun _ kt => zA X hx hby d18_14 rfl rfl rfl (zJ X hx hby d18_15 rfl rfl (zA X hx hby d18_17 rfl rfl rfl (zI X hx hby d18_18 rfl rfl kt)))) ?_
  have V_xa := (V_xa.keep K7.1 (ninS ne_xa_nb1 nin0))
  refine oWk.st (fun _ kt => oLdC X hx hZ e0 V_xa (2 : Int32) (.int xc2) ⟨by decide, by decide⟩ rfl hby d18_19 rfl rfl kt) ?_
  have Oh := K.old O0 all0
  obtain ⟨_, T, h, Lc11, X, e0, hQ, st⟩ := (cs22 hw).run X hx hZ hown e0 (A := [(.ref nb1), (.int (2 : Int32)), (.int xc2)]) rfl (rPut_4_2 l Z a0 hw [] nb1 nk1 xc2 ((xc0 >>> ((0 : Int32) &&& 31)).toInt8.toInt32) ((xc0 >>> ((8 : Int32) &&& 31)).toInt8.toInt32) ((xc1 >>> ((0 : Int32) &&& 31)).toInt8.toInt32) ((xc1 >>> ((8 : Int32) &&& 31)).toInt8.toInt32) (0 : Int32) (0 : Int32) (0 : Int32) (0 : Int32) h Oh S_A S_H S_L (Nat.le_trans O0.1 ge_nb1) V_nb1) (W := 0) (by decide) hml (Ls := #[rv xa, iv 2, iv 4, rv nb1, iv 2]) rfl (rest := []) rfl rfl hby d18_20
  obtain ⟨rfl, K10, V_nb1⟩ := hQ
  have K := K.call K10 (allS (Or.inr ge_nb1) all0)
  refine oWk.to (mkF m 14 #[rv xa, iv 3, iv 4, rv nb1, iv 3] []) (fun _ kt => st _ (zC X hx hby d18_23 rfl rfl (l' := #[rv xa, iv ((2 : Int32) + (1 : Int32)), iv 4, rv nb1, iv 2]) rfl (zC X hx hby d18_26 rfl rfl (l' := #[rv xa, iv 3, iv 4, rv nb1, iv ((2 : Int32) + (1 : Int32))]) rfl (zG X hx hby d18_29 rfl (pc' := 8) rfl (zJ X hx hby d18_8 rfl rfl (zI X hx hby d18_10 rfl rfl (zN X hx hby d18_11 rfl rfl (tlt (by decide)).2.1 kt))))))) ?_
  refine oWk.st (fun _ kt => zA X hx hby d18_14 rfl rfl rfl (zJ X hx hby d18_15 rfl rfl (zA X hx hby d18_17 rfl rfl rfl (zI X hx hby d18_18 rfl rfl kt)))) ?_
  have V_xa := (V_xa.keep K10.1 (ninS ne_xa_nb1 nin0))
  refine oWk.st (fun _ kt => oLdC X hx hZ e0 V_xa (3 : Int32) (.int xc3) ⟨by decide, by decide⟩ rfl hby d18_19 rfl rfl kt) ?_
  have Oh := K.old O0 all0
  obtain ⟨_, T, h, Lc14, X, e0, hQ, st⟩ := (cs22 hw).run X hx hZ hown e0 (A := [(.ref nb1), (.int (3 : Int32)), (.int xc3)]) rfl (rPut_4_3 l Z a0 hw [] nb1 nk1 xc3 ((xc0 >>> ((0 : Int32) &&& 31)).toInt8.toInt32) ((xc0 >>> ((8 : Int32) &&& 31)).toInt8.toInt32) ((xc1 >>> ((0 : Int32) &&& 31)).toInt8.toInt32) ((xc1 >>> ((8 : Int32) &&& 31)).toInt8.toInt32) ((xc2 >>> ((0 : Int32) &&& 31)).toInt8.toInt32) ((xc2 >>> ((8 : Int32) &&& 31)).toInt8.toInt32) (0 : Int32) (0 : Int32) h Oh S_A S_H S_L (Nat.le_trans O0.1 ge_nb1) V_nb1) (W := 0) (by decide) hml (Ls := #[rv xa, iv 3, iv 4, rv nb1, iv 3]) rfl (rest := []) rfl rfl hby d18_20
  obtain ⟨rfl, K13, V_nb1⟩ := hQ
  have K := K.call K13 (allS (Or.inr ge_nb1) all0)
  refine oWk.to (mkF m 32 #[rv xa, iv 4, iv 4, rv nb1, iv 4] []) (fun _ kt => st _ (zC X hx hby d18_23 rfl rfl (l' := #[rv xa, iv ((3 : Int32) + (1 : Int32)), iv 4, rv nb1, iv 3]) rfl (zC X hx hby d18_26 rfl rfl (l' := #[rv xa, iv 4, iv 4, rv nb1, iv ((3 : Int32) + (1 : Int32))]) rfl (zG X hx hby d18_29 rfl (pc' := 8) rfl (zJ X hx hby d18_8 rfl rfl (zI X hx hby d18_10 rfl rfl (zY X hx hby d18_11 rfl rfl (flt (by decide)).2.1 (pc' := 32) rfl kt))))))) ?_
  refine oWk.to (mkF m 33 #[rv xa, iv 4, iv 4, rv nb1, iv 4] [(.ref nb1)]) (fun _ kt => zA X hx hby d18_32 rfl rfl rfl kt) ?_
  exact oRetA X hx hlk hret rfl rfl (hb hby d18_33) (by rw [e0]; exact ⟨nb1, nk1, rfl, K, ge_nb1, V_nb1⟩) (by decide) (by decide)
def Q_rC3U_4 (Z : State) (xa : Addr) (xk : ClassId) (xc0 xc1 xc2 xc3 : Int32) (h0 : Heap) (v : Option Value) (h : Heap) (L : List Loc) : Prop := ∃ (nb : Addr) (nk : ClassId), v = some (.ref nb) ∧ oKp h0 h [] L ∧ (h0.size ≤ nb) ∧ (Arv Z h nb nk .byte (8 : Int32) [(iu0 xc0), (iu8 xc0), (iu0 xc1), (iu8 xc1), (iu0 xc2), (iu8 xc2), (iu0 xc3), (iu8 xc3)] (.int (0 : Int32)))
theorem rC3U_4 (l : Launch) (Z : State) (a0 : Array Value) (hw : oHW a0 Z) (ws : List Jvm.Cond) (xa : Addr) (xk : ClassId) (xc0 xc1 xc2 xc3 : Int32) (h0 : Heap) (O0 : Ext Z.heap h0) (S_A : Sta Z Z.heap Y1 Y3 "Z" (.int (1 : Int32))) (S_H : Sta Z Z.heap Y1 "HI_BYTE_SHIFT" "I" (.int (0 : Int32))) (S_L : Sta Z Z.heap Y1 "LO_BYTE_SHIFT" "I" (.int (8 : Int32))) (V_xa : Arv Z h0 xa xk .char (4 : Int32) [(.int xc0), (.int xc1), (.int xc2), (.int xc3)] (.int (0 : Int32))) (hr0 : 0 ≤ xc0.toInt ∧ xc0.toInt < 65536) (hr1 : 0 ≤ xc1.toInt ∧ xc1.toInt < 65536) (hr2 : 0 ≤ xc2.toInt ∧ xc2.toInt < 65536) (hr3 : 0 ≤ xc3.toInt ∧ xc3.toInt < 65536) (hU : ((255 : Int32) < xc0) ∨ (¬ (255 : Int32) < xc0 ∧ (255 : Int32) < xc1) ∨ (¬ (255 : Int32) < xc0 ∧ ¬ (255 : Int32) < xc1 ∧ (255 : Int32) < xc2) ∨ (¬ (255 : Int32) < xc0 ∧ ¬ (255 : Int32) < xc1 ∧ ¬ (255 : Int32) < xc2 ∧ (255 : Int32) < xc3)) :
    oCon l Z yy20 jdk_52_method_16_code 6 (some (.array .byte)) ws ({ frames := 3, cells := 2, slots := 12, locals := 40 } : Room) #[(.ref xa), (.int (0 : Int32)), (.int (4 : Int32))] h0 (Q_rC3U_4 Z xa xk xc0 xc1 xc2 xc3 h0) := by
  refine oCon.of (plainFor_of_name pn_2) ?_
  intro p e s m below meth c T X hx hby hml hown hnm hret hlk hZ e0
  have hml : c.maxLocals = 6 := hml
  have K : oKp h0 h0 [] [] := oKp.nil _ _
  refine oWk.cast (g' := (mkF m 0 #[rv xa, iv 0, iv 4, uu, uu, uu] [])) (by first | rfl | (simp [entryFrame, mkF, argsToLocals, Value.category]; done)) ?_
  rcases hU with hgt | ⟨hle0, hgt⟩ | ⟨hle0, hle1, hgt⟩ | ⟨hle0, hle1, hle2, hgt⟩
  · show oWk _ _ _ _ T (mkF m 0 #[rv xa, iv 0, iv 4, uu, uu, uu] [])
    refine oWk.st (fun _ kt => zI X hx hby d15_0 rfl rfl kt) ?_
    obtain ⟨o1, g1⟩ : ∃ z, z = h0.size := ⟨_, rfl⟩
    have ne_xa_o1 : xa ≠ o1 := Nat.ne_of_lt (Nat.lt_of_lt_of_le V_xa.lt (Nat.le_of_eq g1.symm))
    have ge_o1 : h0.size ≤ o1 := Nat.le_trans K.le (Nat.le_of_eq g1.symm)
    obtain ⟨T, h, k1, X, e0, E1, A1, st⟩ := newP X hx hZ (oW hw 28 rfl) e0 (g := (mkF m 1 #[rv xa, iv 0, iv 4, uu, uu, uu] [(.int 4)])) rfl (hb hby d15_1) rfl (by decide) (cap := 4) (by decide) (by decide) (by decide) (by decide)
    rw [← g1] at A1 st
    have K := K.ext E1
    have V_o1 : Arv Z h o1 k1 .byte (4 : Int32) [(.int (0 : Int32)), (.int (0 : Int32)), (.int (0 : Int32)), (.int (0 : Int32))] (.int (0 : Int32)) := (Arv.new A1 (by decide)).pad (pad_rep [] (.int (0 : Int32)) 4)
    refine oWk.to (mkF m 9 #[rv xa, iv 0, iv 4, rv o1, uu, uu] [(.int 4), (.int 0), (.ref o1), (.int 0), (.ref xa)]) (fun _ kt => st _ (zTn X hx hby d15_3 rfl rfl rfl (l' := #[rv xa, iv 0, iv 4, rv o1, uu, uu]) rfl (zA X hx hby d15_4 rfl rfl rfl (zI X hx hby d15_5 rfl rfl (zA X hx hby d15_6 rfl rfl rfl (zK X hx hby d15_7 rfl (zI X hx hby d15_8 rfl rfl kt))))))) ?_
    have V_xa := (V_xa.ext E1)
    have Oh := K.old O0 all0
    obtain ⟨_, T, h, Lc3, X, e0, hQ, st⟩ := (cs16 hw).run X hx hZ hown e0 (A := [(.ref xa), (.int (0 : Int32)), (.ref o1), (.int (0 : Int32)), (.int (4 : Int32))]) rfl (rC5U_4_0 l Z a0 hw [] xa o1 xk k1 xc0 xc1 xc2 xc3 h Oh (Nat.le_trans O0.1 ge_o1) ne_xa_o1 V_xa V_o1 hgt) (W := 0) (by decide) hml (Ls := #[rv xa, iv 0, iv 4, rv o1, uu, uu]) rfl (rest := []) rfl rfl hby d15_9
    obtain ⟨rfl, K2⟩ := hQ
    have K := K.call K2 (allS (Or.inr ge_o1) all0)
    refine oWk.to (mkF m 22 #[rv xa, iv 0, iv 4, rv o1, iv 0, uu] [(.int 0), (.ref xa)]) (fun _ kt => st _ (zS X hx hby d15_12 rfl rfl (l' := #[rv xa, iv 0, iv 4, rv o1, iv 0, uu]) rfl (zJ X hx hby d15_14 rfl rfl (zI X hx hby d15_16 rfl rfl (zN X hx hby d15_17 rfl rfl (feq (by decide)).1 (zA X hx hby d15_20 rfl rfl rfl (zI X hx hby d15_21 rfl rfl kt))))))) ?_
    refine oWk.st (fun _ kt => zI X hx hby d15_22 rfl rfl kt) ?_
    have V_xa := (V_xa.keep K2.1 (ninS ne_xa_o1 nin0))
    have lt_xa := V_xa.lt
    have Oh := K.old O0 all0
    obtain ⟨_, T, h, Lc5, X, e0, hQ, st⟩ := (cs23 hw).run X hx hZ hown e0 (A := [(.ref xa), (.int (0 : Int32)), (.int (4 : Int32))]) rfl (rTBU_4 l Z a0 hw [] xa xk xc0 xc1 xc2 xc3 h Oh S_A S_H S_L V_xa) (W := 0) (by decide) hml (Ls := #[rv xa, iv 0, iv 4, rv o1, iv 0, uu]) rfl (rest := []) rfl rfl hby d15_23
    obtain ⟨nb4, nk4, rfl, K4, gn_nb4, V_nb4⟩ := hQ
    have ge_nb4 := Nat.le_trans K.le gn_nb4
    have ne_xa_nb4 : xa ≠ nb4 := Nat.ne_of_lt (Nat.lt_of_lt_of_le lt_xa gn_nb4)
    have K := K.call K4 all0
    refine oWk.st (fun _ kt => st _ (zT X hx hby d15_26 rfl rfl rfl (l' := #[rv xa, iv 0, iv 4, rv o1, iv 0, rv nb4]) rfl (zB X hx hby d15_28 rfl rfl rfl (zJ X hx hby d15_30 rfl rfl kt)))) ?_
    have Oh := K.old O0 all0
    obtain ⟨T, L7, X, e0, K, st⟩ := (cs5 hw).pure X hx hZ hown e0 K (A := [(.ref nb4), (.int (0 : Int32))]) rfl (rGC_4_0 l Z a0 hw [] nb4 nk4 xc0 xc1 xc2 xc3 h Oh S_A S_H S_L hr0 V_nb4) (W := 0) (by decide) hml (Ls := #[rv xa, iv 0, iv 4, rv o1, iv 0, rv nb4]) rfl (rest := []) rfl rfl hby d15_32
    refine oWk.to (mkF m 56 #[rv xa, iv 0, iv 4, rv o1, iv 0, rv nb4] [(.ref nb4)]) (fun _ kt => st _ (zM X hx hby d15_35 rfl (zY X hx hby d15_38 rfl rfl (tlt hgt).2.2.1 (pc' := 54) rfl (zB X hx hby d15_54 rfl rfl rfl kt)))) ?_
    exact oRetA X hx hlk hret rfl rfl (hb hby d15_56) (by rw [e0]; exact ⟨nb4, nk4, rfl, K, ge_nb4, V_nb4⟩) (by decide) (by decide)
  · show oWk _ _ _ _ T (mkF m 0 #[rv xa, iv 0, iv 4, uu, uu, uu] [])
    refine oWk.st (fun _ kt => zI X hx hby d15_0 rfl rfl kt) ?_
    obtain ⟨o8, g8⟩ : ∃ z, z = h0.size := ⟨_, rfl⟩
    have ne_xa_o8 : xa ≠ o8 := Nat.ne_of_lt (Nat.lt_of_lt_of_le V_xa.lt (Nat.le_of_eq g8.symm))
    have ge_o8 : h0.size ≤ o8 := Nat.le_trans K.le (Nat.le_of_eq g8.symm)
    obtain ⟨T, h, k8, X, e0, E8, A8, st⟩ := newP X hx hZ (oW hw 28 rfl) e0 (g := (mkF m 1 #[rv xa, iv 0, iv 4, uu, uu, uu] [(.int 4)])) rfl (hb hby d15_1) rfl (by decide) (cap := 4) (by decide) (by decide) (by decide) (by decide)
    rw [← g8] at A8 st
    have K := K.ext E8
    have V_o8 : Arv Z h o8 k8 .byte (4 : Int32) [(.int (0 : Int32)), (.int (0 : Int32)), (.int (0 : Int32)), (.int (0 : Int32))] (.int (0 : Int32)) := (Arv.new A8 (by decide)).pad (pad_rep [] (.int (0 : Int32)) 4)
    refine oWk.to (mkF m 9 #[rv xa, iv 0, iv 4, rv o8, uu, uu] [(.int 4), (.int 0), (.ref o8), (.int 0), (.ref xa)]) (fun _ kt => st _ (zTn X hx hby d15_3 rfl rfl rfl (l' := #[rv xa, iv 0, iv 4, rv o8, uu, uu]) rfl (zA X hx hby d15_4 rfl rfl rfl (zI X hx hby d15_5 rfl rfl (zA X hx hby d15_6 rfl rfl rfl (zK X hx hby d15_7 rfl (zI X hx hby d15_8 rfl rfl kt))))))) ?_
    have V_xa := (V_xa.ext E8)
    have Oh := K.old O0 all0
    obtain ⟨_, T, h, Lc10, X, e0, hQ, st⟩ := (cs16 hw).run X hx hZ hown e0 (A := [(.ref xa), (.int (0 : Int32)), (.ref o8), (.int (0 : Int32)), (.int (4 : Int32))]) rfl (rC5U_4_1 l Z a0 hw [] xa o8 xk k8 xc0 xc1 xc2 xc3 h Oh (Nat.le_trans O0.1 ge_o8) ne_xa_o8 V_xa V_o8 hle0 hgt) (W := 0) (by decide) hml (Ls := #[rv xa, iv 0, iv 4, rv o8, uu, uu]) rfl (rest := []) rfl rfl hby d15_9
    obtain ⟨rfl, K9⟩ := hQ
    have K := K.call K9 (allS (Or.inr ge_o8) all0)
    refine oWk.to (mkF m 22 #[rv xa, iv 0, iv 4, rv o8, iv 1, uu] [(.int 0), (.ref xa)]) (fun _ kt => st _ (zS X hx hby d15_12 rfl rfl (l' := #[rv xa, iv 0, iv 4, rv o8, iv 1, uu]) rfl (zJ X hx hby d15_14 rfl rfl (zI X hx hby d15_16 rfl rfl (zN X hx hby d15_17 rfl rfl (feq (by decide)).1 (zA X hx hby d15_20 rfl rfl rfl (zI X hx hby d15_21 rfl rfl kt))))))) ?_
    refine oWk.st (fun _ kt => zI X hx hby d15_22 rfl rfl kt) ?_
    have V_xa := (V_xa.keep K9.1 (ninS ne_xa_o8 nin0))
    have lt_xa := V_xa.lt
    have Oh := K.old O0 all0
    obtain ⟨_, T, h, Lc12, X, e0, hQ, st⟩ := (cs23 hw).run X hx hZ hown e0 (A := [(.ref xa), (.int (0 : Int32)), (.int (4 : Int32))]) rfl (rTBU_4 l Z a0 hw [] xa xk xc0 xc1 xc2 xc3 h Oh S_A S_H S_L V_xa) (W := 0) (by decide) hml (Ls := #[rv xa, iv 0, iv 4, rv o8, iv 1, uu]) rfl (rest := []) rfl rfl hby d15_23
    obtain ⟨nb11, nk11, rfl, K11, gn_nb11, V_nb11⟩ := hQ
    have ge_nb11 := Nat.le_trans K.le gn_nb11
    have ne_xa_nb11 : xa ≠ nb11 := Nat.ne_of_lt (Nat.lt_of_lt_of_le lt_xa gn_nb11)
    have K := K.call K11 all0
    refine oWk.st (fun _ kt => st _ (zT X hx hby d15_26 rfl rfl rfl (l' := #[rv xa, iv 0, iv 4, rv o8, iv 1, rv nb11]) rfl (zB X hx hby d15_28 rfl rfl rfl (zJ X hx hby d15_30 rfl rfl kt)))) ?_
    have Oh := K.old O0 all0
    obtain ⟨T, L14, X, e0, K, st⟩ := (cs5 hw).pure X hx hZ hown e0 K (A := [(.ref nb11), (.int (1 : Int32))]) rfl (rGC_4_1 l Z a0 hw [] nb11 nk11 xc0 xc1 xc2 xc3 h Oh S_A S_H S_L hr1 V_nb11) (W := 0) (by decide) hml (Ls := #[rv xa, iv 0, iv 4, rv o8, iv 1, rv nb11]) rfl (rest := []) rfl rfl hby d15_32
    refine oWk.to (mkF m 56 #[rv xa, iv 0, iv 4, rv o8, iv 1, rv nb11] [(.ref nb11)]) (fun _ kt => st _ (zM X hx hby d15_35 rfl (zY X hx hby d15_38 rfl rfl (tlt hgt).2.2.1 (pc' := 54) rfl (zB X hx hby d15_54 rfl rfl rfl kt)))) ?_
    exact oRetA X hx hlk hret rfl rfl (hb hby d15_56) (by rw [e0]; exact ⟨nb11, nk11, rfl, K, ge_nb11, V_nb11⟩) (by decide) (by decide)
  · show oWk _ _ _ _ T (mkF m 0 #[rv xa, iv 0, iv 4, uu, uu, uu] [])
    refine oWk.st (fun _ kt => zI X hx hby d15_0 rfl rfl kt) ?_
    obtain ⟨o15, g15⟩ : ∃ z, z = h0.size := ⟨_, rfl⟩
    have ne_xa_o15 : xa ≠ o15 := Nat.ne_of_lt (Nat.lt_of_lt_of_le V_xa.lt (Nat.le_of_eq g15.symm))
    have ge_o15 : h0.size ≤ o15 := Nat.le_trans K.le (Nat.le_of_eq g15.symm)
    obtain ⟨T, h, k15, X, e0, E15, A15, st⟩ := newP X hx hZ (oW hw 28 rfl) e0 (g := (mkF m 1 #[rv xa, iv 0, iv 4, uu, uu, uu] [(.int 4)])) rfl (hb hby d15_1) rfl (by decide) (cap := 4) (by decide) (by decide) (by decide) (by decide)
    rw [← g15] at A15 st
    have K := K.ext E15
    have V_o15 : Arv Z h o15 k15 .byte (4 : Int32) [(.int (0 : Int32)), (.int (0 : Int32)), (.int (0 : Int32)), (.int (0 : Int32))] (.int (0 : Int32)) := (Arv.new A15 (by decide)).pad (pad_rep [] (.int (0 : Int32)) 4)
    refine oWk.to (mkF m 9 #[rv xa, iv 0, iv 4, rv o15, uu, uu] [(.int 4), (.int 0), (.ref o15), (.int 0), (.ref xa)]) (fun _ kt => st _ (zTn X hx hby d15_3 rfl rfl rfl (l' := #[rv xa, iv 0, iv 4, rv o15, uu, uu]) rfl (zA X hx hby d15_4 rfl rfl rfl (zI X hx hby d15_5 rfl rfl (zA X hx hby d15_6 rfl rfl rfl (zK X hx hby d15_7 rfl (zI X hx hby d15_8 rfl rfl kt))))))) ?_
    have V_xa := (V_xa.ext E15)
    have Oh := K.old O0 all0
    obtain ⟨_, T, h, Lc17, X, e0, hQ, st⟩ := (cs16 hw).run X hx hZ hown e0 (A := [(.ref xa), (.int (0 : Int32)), (.ref o15), (.int (0 : Int32)), (.int (4 : Int32))]) rfl (rC5U_4_2 l Z a0 hw [] xa o15 xk k15 xc0 xc1 xc2 xc3 h Oh (Nat.le_trans O0.1 ge_o15) ne_xa_o15 V_xa V_o15 hle0 hle1 hgt) (W := 0) (by decide) hml (Ls := #[rv xa, iv 0, iv 4, rv o15, uu, uu]) rfl (rest := []) rfl rfl hby d15_9
    obtain ⟨rfl, K16⟩ := hQ
    have K := K.call K16 (allS (Or.inr ge_o15) all0)
    refine oWk.to (mkF m 22 #[rv xa, iv 0, iv 4, rv o15, iv 2, uu] [(.int 0), (.ref xa)]) (fun _ kt => st _ (zS X hx hby d15_12 rfl rfl (l' := #[rv xa, iv 0, iv 4, rv o15, iv 2, uu]) rfl (zJ X hx hby d15_14 rfl rfl (zI X hx hby d15_16 rfl rfl (zN X hx hby d15_17 rfl rfl (feq (by decide)).1 (zA X hx hby d15_20 rfl rfl rfl (zI X hx hby d15_21 rfl rfl kt))))))) ?_
    refine oWk.st (fun _ kt => zI X hx hby d15_22 rfl rfl kt) ?_
    have V_xa := (V_xa.keep K16.1 (ninS ne_xa_o15 nin0))
    have lt_xa := V_xa.lt
    have Oh := K.old O0 all0
    obtain ⟨_, T, h, Lc19, X, e0, hQ, st⟩ := (cs23 hw).run X hx hZ hown e0 (A := [(.ref xa), (.int (0 : Int32)), (.int (4 : Int32))]) rfl (rTBU_4 l Z a0 hw [] xa xk xc0 xc1 xc2 xc3 h Oh S_A S_H S_L V_xa) (W := 0) (by decide) hml (Ls := #[rv xa, iv 0, iv 4, rv o15, iv 2, uu]) rfl (rest := []) rfl rfl hby d15_23
    obtain ⟨nb18, nk18, rfl, K18, gn_nb18, V_nb18⟩ := hQ
    have ge_nb18 := Nat.le_trans K.le gn_nb18
    have ne_xa_nb18 : xa ≠ nb18 := Nat.ne_of_lt (Nat.lt_of_lt_of_le lt_xa gn_nb18)
    have K := K.call K18 all0
    refine oWk.st (fun _ kt => st _ (zT X hx hby d15_26 rfl rfl rfl (l' := #[rv xa, iv 0, iv 4, rv o15, iv 2, rv nb18]) rfl (zB X hx hby d15_28 rfl rfl rfl (zJ X hx hby d15_30 rfl rfl kt)))) ?_
    have Oh := K.old O0 all0
    obtain ⟨T, L21, X, e0, K, st⟩ := (cs5 hw).pure X hx hZ hown e0 K (A := [(.ref nb18), (.int (2 : Int32))]) rfl (rGC_4_2 l Z a0 hw [] nb18 nk18 xc0 xc1 xc2 xc3 h Oh S_A S_H S_L hr2 V_nb18) (W := 0) (by decide) hml (Ls := #[rv xa, iv 0, iv 4, rv o15, iv 2, rv nb18]) rfl (rest := []) rfl rfl hby d15_32
    refine oWk.to (mkF m 56 #[rv xa, iv 0, iv 4, rv o15, iv 2, rv nb18] [(.ref nb18)]) (fun _ kt => st _ (zM X hx hby d15_35 rfl (zY X hx hby d15_38 rfl rfl (tlt hgt).2.2.1 (pc' := 54) rfl (zB X hx hby d15_54 rfl rfl rfl kt)))) ?_
    exact oRetA X hx hlk hret rfl rfl (hb hby d15_56) (by rw [e0]; exact ⟨nb18, nk18, rfl, K, ge_nb18, V_nb18⟩) (by decide) (by decide)
  · show oWk _ _ _ _ T (mkF m 0 #[rv xa, iv 0, iv 4, uu, uu, uu] [])
    refine oWk.st (fun _ kt => zI X hx hby d15_0 rfl rfl kt) ?_
    obtain ⟨o22, g22⟩ : ∃ z, z = h0.size := ⟨_, rfl⟩
    have ne_xa_o22 : xa ≠ o22 := Nat.ne_of_lt (Nat.lt_of_lt_of_le V_xa.lt (Nat.le_of_eq g22.symm))
    have ge_o22 : h0.size ≤ o22 := Nat.le_trans K.le (Nat.le_of_eq g22.symm)
    obtain ⟨T, h, k22, X, e0, E22, A22, st⟩ := newP X hx hZ (oW hw 28 rfl) e0 (g := (mkF m 1 #[rv xa, iv 0, iv 4, uu, uu, uu] [(.int 4)])) rfl (hb hby d15_1) rfl (by decide) (cap := 4) (by decide) (by decide) (by decide) (by decide)
    rw [← g22] at A22 st
    have K := K.ext E22
    have V_o22 : Arv Z h o22 k22 .byte (4 : Int32) [(.int (0 : Int32)), (.int (0 : Int32)), (.int (0 : Int32)), (.int (0 : Int32))] (.int (0 : Int32)) := (Arv.new A22 (by decide)).pad (pad_rep [] (.int (0 : Int32)) 4)
    refine oWk.to (mkF m 9 #[rv xa, iv 0, iv 4, rv o22, uu, uu] [(.int 4), (.int 0), (.ref o22), (.int 0), (.ref xa)]) (fun _ kt => st _ (zTn X hx hby d15_3 rfl rfl rfl (l' := #[rv xa, iv 0, iv 4, rv o22, uu, uu]) rfl (zA X hx hby d15_4 rfl rfl rfl (zI X hx hby d15_5 rfl rfl (zA X hx hby d15_6 rfl rfl rfl (zK X hx hby d15_7 rfl (zI X hx hby d15_8 rfl rfl kt))))))) ?_
    have V_xa := (V_xa.ext E22)
    have Oh := K.old O0 all0
    obtain ⟨_, T, h, Lc24, X, e0, hQ, st⟩ := (cs16 hw).run X hx hZ hown e0 (A := [(.ref xa), (.int (0 : Int32)), (.ref o22), (.int (0 : Int32)), (.int (4 : Int32))]) rfl (rC5U_4_3 l Z a0 hw [] xa o22 xk k22 xc0 xc1 xc2 xc3 h Oh (Nat.le_trans O0.1 ge_o22) ne_xa_o22 V_xa V_o22 hle0 hle1 hle2 hgt) (W := 0) (by decide) hml (Ls := #[rv xa, iv 0, iv 4, rv o22, uu, uu]) rfl (rest := []) rfl rfl hby d15_9
    obtain ⟨rfl, K23⟩ := hQ
    have K := K.call K23 (allS (Or.inr ge_o22) all0)
    refine oWk.to (mkF m 22 #[rv xa, iv 0, iv 4, rv o22, iv 3, uu] [(.int 0), (.ref xa)]) (fun _ kt => st _ (zS X hx hby d15_12 rfl rfl (l' := #[rv xa, iv 0, iv 4, rv o22, iv 3, uu]) rfl (zJ X hx hby d15_14 rfl rfl (zI X hx hby d15_16 rfl rfl (zN X hx hby d15_17 rfl rfl (feq (by decide)).1 (zA X hx hby d15_20 rfl rfl rfl (zI X hx hby d15_21 rfl rfl kt))))))) ?_
    refine oWk.st (fun _ kt => zI X hx hby d15_22 rfl rfl kt) ?_
    have V_xa := (V_xa.keep K23.1 (ninS ne_xa_o22 nin0))
    have lt_xa := V_xa.lt
    have Oh := K.old O0 all0
    obtain ⟨_, T, h, Lc26, X, e0, hQ, st⟩ := (cs23 hw).run X hx hZ hown e0 (A := [(.ref xa), (.int (0 : Int32)), (.int (4 : Int32))]) rfl (rTBU_4 l Z a0 hw [] xa xk xc0 xc1 xc2 xc3 h Oh S_A S_H S_L V_xa) (W := 0) (by decide) hml (Ls := #[rv xa, iv 0, iv 4, rv o22, iv 3, uu]) rfl (rest := []) rfl rfl hby d15_23
    obtain ⟨nb25, nk25, rfl, K25, gn_nb25, V_nb25⟩ := hQ
    have ge_nb25 := Nat.le_trans K.le gn_nb25
    have ne_xa_nb25 : xa ≠ nb25 := Nat.ne_of_lt (Nat.lt_of_lt_of_le lt_xa gn_nb25)
    have K := K.call K25 all0
    refine oWk.st (fun _ kt => st _ (zT X hx hby d15_26 rfl rfl rfl (l' := #[rv xa, iv 0, iv 4, rv o22, iv 3, rv nb25]) rfl (zB X hx hby d15_28 rfl rfl rfl (zJ X hx hby d15_30 rfl rfl kt)))) ?_
    have Oh := K.old O0 all0
    obtain ⟨T, L28, X, e0, K, st⟩ := (cs5 hw).pure X hx hZ hown e0 K (A := [(.ref nb25), (.int (3 : Int32))]) rfl (rGC_4_3 l Z a0 hw [] nb25 nk25 xc0 xc1 xc2 xc3 h Oh S_A S_H S_L hr3 V_nb25) (W := 0) (by decide) hml (Ls := #[rv xa, iv 0, iv 4, rv o22, iv 3, rv nb25]) rfl (rest := []) rfl rfl hby d15_32
    refine oWk.to (mkF m 56 #[rv xa, iv 0, iv 4, rv o22, iv 3, rv nb25] [(.ref nb25)]) (fun _ kt => st _ (zM X hx hby d15_35 rfl (zY X hx hby d15_38 rfl rfl (tlt hgt).2.2.1 (pc' := 54) rfl (zB X hx hby d15_54 rfl rfl rfl kt)))) ?_
    exact oRetA X hx hlk hret rfl rfl (hb hby d15_56) (by rw [e0]; exact ⟨nb25, nk25, rfl, K, ge_nb25, V_nb25⟩) (by decide) (by decide)
theorem rCoU_4 (l : Launch) (Z : State) (a0 : Array Value) (hw : oHW a0 Z) (ws : List Jvm.Cond) (xb : Addr) (xk : ClassId) (xc0 xc1 xc2 xc3 : Int32) (h0 : Heap) (O0 : Ext Z.heap h0) (V_xb : Arv Z h0 xb xk .byte (8 : Int32) [(iu0 xc0), (iu8 xc0), (iu0 xc1), (iu8 xc1), (iu0 xc2), (iu8 xc2), (iu0 xc3), (iu8 xc3)] (.int (0 : Int32))) :
    oCon l Z yy21 jdk_52_method_15_code 2 (some .byte) ws ({ frames := 0, cells := 0, slots := 0, locals := 0 } : Room) #[(.ref xb), (.int (4 : Int32))] h0 (oPq (some (.int (1 : Int32))) h0) := by
  refine oCon.of (plainFor_of_name pn_2) ?_
  intro p e s m below meth c T X hx hby hml hown hnm hret hlk hZ e0
  have hml : c.maxLocals = 2 := hml
  have K : oKp h0 h0 [] [] := oKp.nil _ _
  refine oWk.cast (g' := (mkF m 0 #[rv xb, iv 4] [])) (by first | rfl | (simp [entryFrame, mkF, argsToLocals, Value.category]; done)) ?_
  refine oWk.to (mkF m 8 #[rv xb, iv 4] [(.int 1)]) (fun _ kt => zI X hx hby d17_0 rfl rfl (zA X hx hby d17_1 rfl rfl rfl (oAl X hx hZ e0 V_xb hby d17_2 rfl rfl (XS.isub X.here hx rfl (hb hby d17_3) rfl (zL X hx hby d17_4 rfl (XS.iushr X.here hx rfl (hb hby d17_6) rfl (XS.i2b X.here hx rfl (hb hby d17_7) rfl kt))))))) ?_
  exact oRetN X hx hlk hret (Or.inl rfl) rfl (hb hby d17_8) (by rw [e0]; exact ⟨rfl, rfl, K⟩) (by decide) (by decide)
def Q_rI4U_4 (Z : State) (xs xa : Addr) (xk : ClassId) (xz : Int32) (xu xv : Value) (xc0 xc1 xc2 xc3 : Int32) (h0 : Heap) (v : Option Value) (h : Heap) (L : List Loc) : Prop := ∃ (nb : Addr) (nk : ClassId), v = none ∧ oKp h0 h [xs] L ∧ (Exa Z h xs Y0) ∧ (Fld Z h xs Y0 "coder" "B" (.int (1 : Int32))) ∧ (Fld Z h xs Y0 "value" "[B" (.ref nb)) ∧ (h0.size ≤ nb) ∧ (Arv Z h nb nk .byte (8 : Int32) [(iu0 xc0), (iu8 xc0), (iu0 xc1), (iu8 xc1), (iu0 xc2), (iu8 xc2), (iu0 xc3), (iu8 xc3)] (.int (0 : Int32)))
theorem rI4U_4 (l : Launch) (Z : State) (a0 : Array Value) (hw : oHW a0 Z) (ws : List Jvm.Cond) (xs xa : Addr) (xk : ClassId) (xz : Int32) (xu xv : Value) (xc0 xc1 xc2 xc3 : Int32) (h0 : Heap) (O0 : Ext Z.heap h0) (S_Z : Sta Z Z.heap Y0 Y2 "Z" (.int xz)) (hz : ¬ xz = (0 : Int32)) (S_A : Sta Z Z.heap Y1 Y3 "Z" (.int (1 : Int32))) (S_H : Sta Z Z.heap Y1 "HI_BYTE_SHIFT" "I" (.int (0 : Int32))) (S_L : Sta Z Z.heap Y1 "LO_BYTE_SHIFT" "I" (.int (8 : Int32))) (og_xs : Z.heap.size ≤ xs) (E_xs : Exa Z h0 xs Y0) (F_value_xs : Fld Z h0 xs Y0 "value" "[B" xu) (F_coder_xs : Fld Z h0 xs Y0 "coder" "B" xv) (V_xa : Arv Z h0 xa xk .char (4 : Int32) [(.int xc0), (.int xc1), (.int xc2), (.int xc3)] (.int (0 : Int32))) (hr0 : 0 ≤ xc0.toInt ∧ xc0.toInt < 65536) (hr1 : 0 ≤ xc1.toInt ∧ xc1.toInt < 65536) (hr2 : 0 ≤ xc2.toInt ∧ xc2.toInt < 65536) (hr3 : 0 ≤ xc3.toInt ∧ xc3.toInt < 65536) (hU : ((255 : Int32) < xc0) ∨ (¬ (255 : Int32) < xc0 ∧ (255 : Int32) < xc1) ∨ (¬ (255 : Int32) < xc0 ∧ ¬ (255 : Int32) < xc1 ∧ (255 : Int32) < xc2) ∨ (¬ (255 : Int32) < xc0 ∧ ¬ (255 : Int32) < xc1 ∧ ¬ (255 : Int32) < xc2 ∧ (255 : Int32) < xc3)) :
    oCon l Z yy17 jdk_42_method_149_code 6 none ws ({ frames := 4, cells := 2, slots := 12, locals := 57 } : Room) #[(.ref xs), (.ref xa), (.int (0 : Int32)), (.int (4 : Int32)), .null] h0 (Q_rI4U_4 Z xs xa xk xz xu xv xc0 xc1 xc2 xc3 h0) := by
  refine oCon.of (plainFor_of_name pn_0) ?_
  intro p e s m below meth c T X hx hby hml hown hnm hret hlk hZ e0
  have hml : c.maxLocals = 6 := hml
  have K : oKp h0 h0 [xs] [] := oKp.nil _ _
  refine oWk.cast (g' := (mkF m 0 #[rv xs, rv xa, iv 0, iv 4, .val .null, uu] [])) (by first | rfl | (simp [entryFrame, mkF, argsToLocals, Value.category]; done)) ?_
  refine oWk.st (fun _ kt => zA X hx hby d5_0 rfl rfl rfl kt) ?_
  obtain ⟨T, X, e0, st⟩ := initO X hx hZ hown (oW hw 24 rfl) (oW hw 25 rfl) (oW hw 26 rfl) e0 (g := (mkF m 1 #[rv xs, rv xa, iv 0, iv 4, .val .null, uu] [(.ref xs)])) rfl (by rw [hml]; rfl) rfl (hb hby d5_1) (by decide) (W := 0) (Nat.le_of_eq rfl) (by decide)
  refine oWk.st (fun _ kt => st _ (zI X hx hby d5_4 rfl rfl (zF X hx hby d5_5 rfl rfl ((if0 _ _).trans (feq (by decide)).2) (pc' := 27) rfl kt))) ?_
  have Oh := K.old O0 (allS og_xs all0)
  obtain ⟨T, X, e0, st⟩ := getS2 X hx hZ hown (host := "") (Or.inl (oW hw 49 rfl)) Via.refl e0 (S_Z.ext Oh) (g := (mkF m 27 #[rv xs, rv xa, iv 0, iv 4, .val .null, uu] [])) rfl (hb hby d5_27)
  refine oWk.st (fun _ kt => st _ (zH X hx hby d5_30 rfl rfl ((if0 _ _).trans (feq hz).1) (zA X hx hby d5_33 rfl rfl rfl (zI X hx hby d5_34 rfl rfl (zI X hx hby d5_35 rfl rfl kt))))) ?_
  have lt_xs := E_xs.lt
  have lt_xa := V_xa.lt
  obtain ⟨_, T, h, Lc2, X, e0, hQ, st⟩ := (cs17 hw).run X hx hZ hown e0 (A := [(.ref xa), (.int (0 : Int32)), (.int (4 : Int32))]) rfl (rC3U_4 l Z a0 hw [] xa xk xc0 xc1 xc2 xc3 h0 Oh S_A S_H S_L V_xa hr0 hr1 hr2 hr3 hU) (W := 0) (by decide) hml (Ls := #[rv xs, rv xa, iv 0, iv 4, .val .null, uu]) rfl (rest := []) rfl rfl hby d5_36
  obtain ⟨nb1, nk1, rfl, K1, gn_nb1, V_nb1⟩ := hQ
  have ge_nb1 := Nat.le_trans K.le gn_nb1
  have ne_xs_nb1 : xs ≠ nb1 := Nat.ne_of_lt (Nat.lt_of_lt_of_le lt_xs gn_nb1)
  have ne_xa_nb1 : xa ≠ nb1 := Nat.ne_of_lt (Nat.lt_of_lt_of_le lt_xa gn_nb1)
  have K := K.call K1 all0
  refine oWk.st (fun _ kt => st _ (zT X hx hby d5_39 rfl rfl rfl (l' := #[rv xs, rv xa, iv 0, iv 4, .val .null, rv nb1]) rfl (zA X hx hby d5_41 rfl rfl rfl (zB X hx hby d5_42 rfl rfl rfl (zI X hx hby d5_44 rfl rfl kt))))) ?_
  have Oh := K.old O0 (allS og_xs all0)
  obtain ⟨T, L4, X, e0, K, st⟩ := (cs18 hw).pure X hx hZ hown e0 K (A := [(.ref nb1), (.int (4 : Int32))]) rfl (rCoU_4 l Z a0 hw [] nb1 nk1 xc0 xc1 xc2 xc3 h Oh V_nb1) (W := 1) (by decide) hml (Ls := #[rv xs, rv xa, iv 0, iv 4, .val .null, rv nb1]) rfl (rest := [(.ref xs)]) rfl rfl hby d5_45
  refine oWk.st (fun _ kt => st _ kt) ?_
  have E_xs := (E_xs.keep K1.1)
  have F_coder_xs := (F_coder_xs.keep K1.1 nin0)
  obtain ⟨T, h, X, e0, W5, st⟩ := putFN X hx hZ hown (oW hw 34 rfl) Via.refl e0 F_coder_xs E_xs (Or.inr ⟨(oW hw 30 rfl), rfl, hnm⟩) (oW hw 15 rfl) (ty := .byte) (v' := .int (1 : Int32)) (by decide) rfl (by decide) (g := (mkF m 48 #[rv xs, rv xa, iv 0, iv 4, .val .null, rv nb1] [(.int 1), (.ref xs)])) rfl rfl (hb hby d5_48)
  have K := K.wr W5 (Or.inl (List.mem_of_getElem? (i := 0) rfl))
  have F_coder_xs := F_coder_xs.same W5
  refine oWk.st (fun _ kt => st _ (zA X hx hby d5_51 rfl rfl rfl (zB X hx hby d5_52 rfl rfl rfl kt))) ?_
  have E_xs := (E_xs.wr W5)
  have F_value_xs := ((F_value_xs.keep K1.1 nin0).other W5 (Or.inr (slot_ne (Or.inr (oW hw 29 rfl)) (Or.inr (oW hw 30 rfl)) (by decide) (t := (.array .byte)) (t' := .byte) (by decide) (by decide))))
  obtain ⟨T, h, X, e0, W6, st⟩ := putF X hx hZ hown (host := "") (Or.inl (oW hw 33 rfl)) Via.refl e0 F_value_xs E_xs (Or.inr ⟨(oW hw 29 rfl), rfl, hnm⟩) (oW hw 15 rfl) (ty := (.array .byte)) (by decide) rfl rfl (g := (mkF m 54 #[rv xs, rv xa, iv 0, iv 4, .val .null, rv nb1] [(.ref nb1), (.ref xs)])) rfl rfl (hb hby d5_54)
  have K := K.wr W6 (Or.inl (List.mem_of_getElem? (i := 0) rfl))
  have F_value_xs := F_value_xs.same W6
  refine oWk.to (mkF m 57 #[rv xs, rv xa, iv 0, iv 4, .val .null, rv nb1] []) (fun _ kt => st _ kt) ?_
  have E_xs := (E_xs.wr W6)
  have F_coder_xs := (F_coder_xs.other W6 (Or.inr (slot_ne (Or.inr (oW hw 30 rfl)) (Or.inr (oW hw 29 rfl)) (by decide) (t := .byte) (t' := (.array .byte)) (by decide) (by decide))))
  have V_nb1 := ((V_nb1.other W5 (Ne.symm ne_xs_nb1)).other W6 (Ne.symm ne_xs_nb1))
  exact oRetV X hx hlk hret (hb hby d5_57) (by rw [e0]; exact ⟨nb1, nk1, rfl, K, E_xs, F_coder_xs, F_value_xs, ge_nb1, V_nb1⟩) (by decide) (by decide)
def Q_rI1U_4 (Z : State) (xs xa : Addr) (xk : ClassId) (xz : Int32) (xu xv : Value) (xc0 xc1 xc2 xc3 : Int32) (h0 : Heap) (v : Option Value) (h : Heap) (L : List Loc) : Prop := ∃ (nb : Addr) (nk : ClassId), v = none ∧ oKp h0 h [xs] L ∧ (Exa Z h xs Y0) ∧ (Fld Z h xs Y0 "coder" "B" (.int (1 : Int32))) ∧ (Fld Z h xs Y0 "value" "[B" (.ref nb)) ∧ (h0.size ≤ nb) ∧ (Arv Z h nb nk .byte (8 : Int32) [(iu0 xc0), (iu8 xc0), (iu0 xc1), (iu8 xc1), (iu0 xc2), (iu8 xc2), (iu0 xc3), (iu8 xc3)] (.int (0 : Int32)))
theorem rI1U_4 (l : Launch) (Z : State) (a0 : Array Value) (hw : oHW a0 Z) (ws : List Jvm.Cond) (xs xa : Addr) (xk : ClassId) (xz : Int32) (xu xv : Value) (xc0 xc1 xc2 xc3 : Int32) (h0 : Heap) (O0 : Ext Z.heap h0) (S_Z : Sta Z Z.heap Y0 Y2 "Z" (.int xz)) (hz : ¬ xz = (0 : Int32)) (S_A : Sta Z Z.heap Y1 Y3 "Z" (.int (1 : Int32))) (S_H : Sta Z Z.heap Y1 "HI_BYTE_SHIFT" "I" (.int (0 : Int32))) (S_L : Sta Z Z.heap Y1 "LO_BYTE_SHIFT" "I" (.int (8 : Int32))) (og_xs : Z.heap.size ≤ xs) (E_xs : Exa Z h0 xs Y0) (F_value_xs : Fld Z h0 xs Y0 "value" "[B" xu) (F_coder_xs : Fld Z h0 xs Y0 "coder" "B" xv) (V_xa : Arv Z h0 xa xk .char (4 : Int32) [(.int xc0), (.int xc1), (.int xc2), (.int xc3)] (.int (0 : Int32))) (hr0 : 0 ≤ xc0.toInt ∧ xc0.toInt < 65536) (hr1 : 0 ≤ xc1.toInt ∧ xc1.toInt < 65536) (hr2 : 0 ≤ xc2.toInt ∧ xc2.toInt < 65536) (hr3 : 0 ≤ xc3.toInt ∧ xc3.toInt < 65536) (hU : ((255 : Int32) < xc0) ∨ (¬ (255 : Int32) < xc0 ∧ (255 : Int32) < xc1) ∨ (¬ (255 : Int32) < xc0 ∧ ¬ (255 : Int32) < xc1 ∧ (255 : Int32) < xc2) ∨ (¬ (255 : Int32) < xc0 ∧ ¬ (255 : Int32) < xc1 ∧ ¬ (255 : Int32) < xc2 ∧ (255 : Int32) < xc3)) :
    oCon l Z yy18 jdk_42_method_3_code 2 none ws ({ frames := 5, cells := 2, slots := 12, locals := 74 } : Room) #[(.ref xs), (.ref xa)] h0 (Q_rI1U_4 Z xs xa xk xz xu xv xc0 xc1 xc2 xc3 h0) := by
  refine oCon.of (plainFor_of_name pn_0) ?_
  intro p e s m below meth c T X hx hby hml hown hnm hret hlk hZ e0
  have hml : c.maxLocals = 2 := hml
  have K : oKp h0 h0 [xs] [] := oKp.nil _ _
  refine oWk.cast (g' := (mkF m 0 #[rv xs, rv xa] [])) (by first | rfl | (simp [entryFrame, mkF, argsToLocals, Value.category]; done)) ?_
  refine oWk.st (fun _ kt => zA X hx hby d4_0 rfl rfl rfl (zA X hx hby d4_1 rfl rfl rfl (zK X hx hby d4_2 rfl (zA X hx hby d4_3 rfl rfl rfl (oAl X hx hZ e0 V_xa hby d4_4 rfl rfl (XS.aconstNull X.here hx rfl (hb hby d4_5) kt)))))) ?_
  have lt_xs := E_xs.lt
  have lt_xa := V_xa.lt
  have Oh := K.old O0 (allS og_xs all0)
  obtain ⟨_, T, h, Lc3, X, e0, hQ, st⟩ := (cs19 hw).run X hx hZ hown e0 (A := [(.ref xs), (.ref xa), (.int (0 : Int32)), (.int (4 : Int32)), .null]) ⟨rfl, _, _, rfl⟩ (rI4U_4 l Z a0 hw [] xs xa xk xz xu xv xc0 xc1 xc2 xc3 h0 Oh S_Z hz S_A S_H S_L og_xs E_xs F_value_xs F_coder_xs V_xa hr0 hr1 hr2 hr3 hU) (W := 0) (by decide) hml (Ls := #[rv xs, rv xa]) rfl (rest := []) rfl rfl hby d4_6
  obtain ⟨nb2, nk2, rfl, K2, E_xs, F_coder_xs, F_value_xs, gn_nb2, V_nb2⟩ := hQ
  have ge_nb2 := Nat.le_trans K.le gn_nb2
  have ne_xs_nb2 : xs ≠ nb2 := Nat.ne_of_lt (Nat.lt_of_lt_of_le lt_xs gn_nb2)
  have ne_xa_nb2 : xa ≠ nb2 := Nat.ne_of_lt (Nat.lt_of_lt_of_le lt_xa gn_nb2)
  have K := K.call K2 (allS (Or.inl (List.mem_of_getElem? (i := 0) rfl)) all0)
  refine oWk.to (mkF m 9 #[rv xs, rv xa] []) (fun _ kt => st _ kt) ?_
  exact oRetV X hx hlk hret (hb hby d4_9) (by rw [e0]; exact ⟨nb2, nk2, rfl, K, E_xs, F_coder_xs, F_value_xs, ge_nb2, V_nb2⟩) (by decide) (by decide)
def Q_rSt_0 (Z : State) (xc xd xz : Int32) (h0 : Heap) (v : Option Value) (h : Heap) (L : List Loc) : Prop := ∃ (nr : Addr), v = some (.ref nr) ∧ oKp h0 h [] L ∧ (h0.size ≤ nr) ∧ (oTx Z h nr (oSO 0 xc xd))
abbrev yy26 : MethodName := ⟨"com/example/congruent/congruent/graph/CodePointOrderComparePinLaw", "str", "(III)Ljava/lang/String;"⟩
theorem d3_0 : decode method_8_code 0 = .ok (.iconst 4, 1) := by decide +kernel
theorem d3_1 : decode method_8_code 1 = .ok (.newarray .char, 2) := by decide +kernel
theorem d3_3 : decode method_8_code 3 = .ok (.astore_n 3, 1) := by decide +kernel
theorem d3_4 : decode method_8_code 4 = .ok (.iconst 0, 1) := by decide +kernel
theorem d3_5 : decode method_8_code 5 = .ok (.istore 4, 2) := by decide +kernel
theorem d3_7 : decode method_8_code 7 = .ok (.iload_n 0, 1) := by decide +kernel
theorem d3_8 : decode method_8_code 8 = .ok (.iconst 1, 1) := by decide +kernel
theorem d3_9 : decode method_8_code 9 = .ok (.if_icmp .lt 12, 3) := by decide +kernel
theorem d3_21 : decode method_8_code 21 = .ok (.iload_n 0, 1) := by decide +kernel
theorem d3_22 : decode method_8_code 22 = .ok (.iconst 2, 1) := by decide +kernel
theorem d3_23 : decode method_8_code 23 = .ok (.if_icmp .lt 12, 3) := by decide +kernel
theorem d3_35 : decode method_8_code 35 = .ok (.iload 4, 2) := by decide +kernel
theorem d3_37 : decode method_8_code 37 = .ok (.ifCond .ne 14, 3) := by decide +kernel
theorem d3_40 : decode method_8_code 40 = .ok (.new 44, 3) := by decide +kernel
theorem d3_43 : decode method_8_code 43 = .ok (.dup, 1) := by decide +kernel
theorem d3_44 : decode method_8_code 44 = .ok (.iconst 0, 1) := by decide +kernel
theorem d3_45 : decode method_8_code 45 = .ok (.newarray .char, 2) := by decide +kernel
theorem d3_47 : decode method_8_code 47 = .ok (.invokespecial 46, 3) := by decide +kernel
theorem pd_19 : parseMethodDescriptor "([C)V" = some ⟨[(.array .char)], none⟩ := by decide +kernel
theorem d3_50 : decode method_8_code 50 = .ok (.areturn, 1) := by decide +kernel
theorem rSt_0 (l : Launch) (Z : State) (a0 : Array Value) (hw : oHW a0 Z) (ws : List Jvm.Cond) (xc xd xz : Int32) (h0 : Heap) (O0 : Ext Z.heap h0) (S_Z : Sta Z Z.heap Y0 Y2 "Z" (.int xz)) (hz : ¬ xz = (0 : Int32)) (S_A : Sta Z Z.heap Y1 Y3 "Z" (.int (1 : Int32))) (S_H : Sta Z Z.heap Y1 "HI_BYTE_SHIFT" "I" (.int (0 : Int32))) (S_L : Sta Z Z.heap Y1 "LO_BYTE_SHIFT" "I" (.int (8 : Int32))) :
    oConH l Z oEL yy26 method_8_code 5 (some (.object Y0)) ws ({ frames := 3, cells := 7, slots := 16, locals := 43 } : Room) #[(.int (0 : Int32)), (.int xc), (.int xd)] h0 [] (Q_rSt_0 Z xc xd xz h0) := by
  refine oConH.of (plainFor_of_name pn_7) ?_
  intro p e s m below meth c T vm X hx hby hml hown hnm hret hlk hZ e0 B hsf
  have hml : c.maxLocals = 5 := hml
  have K : oKp h0 h0 [] [] := oKp.nil _ _
  refine oWk.cast (g' := (mkF m 0 #[iv 0, iv xc, iv xd, uu, uu] [])) (by first | rfl | (simp [entryFrame, mkF, argsToLocals, Value.category]; done)) ?_
  refine oWk.st (fun _ kt => zK X hx hby d3_0 rfl kt) ?_
  obtain ⟨buf, g1⟩ : ∃ z, z = h0.size := ⟨_, rfl⟩
  have ge_buf : h0.size ≤ buf := Nat.le_trans K.le (Nat.le_of_eq g1.symm)
  have sf_buf := B.new (Nat.le_of_eq g1.symm)
  obtain ⟨T, h, k1, X, e0, E1, A1, st⟩ := newP X hx hZ (oW hw 13 rfl) e0 (g := (mkF m 1 #[iv 0, iv xc, iv xd, uu, uu] [(.int 4)])) rfl (hb hby d3_1) rfl (by decide) (cap := 4) (by decide) (by decide) (by decide) (by decide)
  rw [← g1] at A1 st
  have K := K.ext E1
  have sf_buf := Safe.ext E1 B.2.1 sf_buf
  have B := B.ext E1
  have V_buf : Arv Z h buf k1 .char (4 : Int32) [(.int (0 : Int32)), (.int (0 : Int32)), (.int (0 : Int32)), (.int (0 : Int32))] (.int (0 : Int32)) := (Arv.new A1 (by decide)).pad (pad_rep [] (.int (0 : Int32)) 4)
  refine oWk.to (mkF m 21 #[iv 0, iv xc, iv xd, rv buf, iv 0] []) (fun _ kt => st _ (zTn X hx hby d3_3 rfl rfl rfl (l' := #[iv 0, iv xc, iv xd, rv buf, uu]) rfl (zK X hx hby d3_4 rfl (zS X hx hby d3_5 rfl rfl (l' := #[iv 0, iv xc, iv xd, rv buf, iv 0]) rfl (zI X hx hby d3_7 rfl rfl (zK X hx hby d3_8 rfl (zY X hx hby d3_9 rfl rfl (tlt (by decide)).1 (pc' := 21) rfl kt))))))) ?_
  refine oWk.st (fun _ kt => zI X hx hby d3_21 rfl rfl (zK X hx hby d3_22 rfl (zY X hx hby d3_23 rfl rfl (tlt (by decide)).1 (pc' := 35) rfl (zJ X hx hby d3_35 rfl rfl (zH X hx hby d3_37 rfl rfl ((if0 _ _).trans (teq (by decide)).2) kt))))) ?_
  obtain ⟨o2, g2⟩ : ∃ z, z = h.size := ⟨_, rfl⟩
  have ne_buf_o2 : buf ≠ o2 := Nat.ne_of_lt (Nat.lt_of_lt_of_le V_buf.lt (Nat.le_of_eq g2.symm))
  have ge_o2 : h0.size ≤ o2 := Nat.le_trans K.le (Nat.le_of_eq g2.symm)
  have sf_o2 := B.new (Nat.le_of_eq g2.symm)
  obtain ⟨T, h, X, e0, E2, A2, D2, -, st⟩ := newO X hx hZ hown (oW hw 14 rfl) (oW hw 15 rfl) (oW hw 16 rfl) e0 (g := (mkF m 40 #[iv 0, iv xc, iv xd, rv buf, iv 0] [])) rfl (hb hby d3_40) (by decide) (by decide)
  rw [← g2] at A2 D2 st
  have K := K.ext E2
  have sf_buf := Safe.ext E2 B.2.1 sf_buf
  have sf_o2 := Safe.ext E2 B.2.1 sf_o2
  have B := B.ext E2
  have E_o2 := A2
  have F_value_o2 : Fld Z h o2 Y0 "value" "[B" .null := D2 (Or.inr (oW hw 29 rfl)) (ty := (.array .byte)) (by decide)
  have F_coder_o2 : Fld Z h o2 Y0 "coder" "B" (.int (0 : Int32)) := D2 (Or.inr (oW hw 30 rfl)) (ty := .byte) (by decide)
  refine oWk.st (fun _ kt => st _ (zD X hx hby d3_43 rfl rfl rfl (zK X hx hby d3_44 rfl kt))) ?_
  obtain ⟨o3, g3⟩ : ∃ z, z = h.size := ⟨_, rfl⟩
  have V_buf := (V_buf.ext E2)
  have ne_buf_o3 : buf ≠ o3 := Nat.ne_of_lt (Nat.lt_of_lt_of_le V_buf.lt (Nat.le_of_eq g3.symm))
  have ne_o2_o3 : o2 ≠ o3 := Nat.ne_of_lt (Nat.lt_of_lt_of_le E_o2.lt (Nat.le_of_eq g3.symm))
  have ge_o3 : h0.size ≤ o3 := Nat.le_trans K.le (Nat.le_of_eq g3.symm)
  have sf_o3 := B.new (Nat.le_of_eq g3.symm)
  obtain ⟨T, h, k3, X, e0, E3, A3, st⟩ := newP X hx hZ (oW hw 13 rfl) e0 (g := (mkF m 45 #[iv 0, iv xc, iv xd, rv buf, iv 0] [(.int 0), (.ref o2), (.ref o2)])) rfl (hb hby d3_45) rfl (by decide) (cap := 0) (by decide) (by decide) (by decide) (by decide)
  rw [← g3] at A3 st
  have K := K.ext E3
  have sf_buf := Safe.ext E3 B.2.1 sf_buf
  have sf_o2 := Safe.ext E3 B.2.1 sf_o2
  have sf_o3 := Safe.ext E3 B.2.1 sf_o3
  have B := B.ext E3
  have V_o3 : Arv Z h o3 k3 .char (0 : Int32) [] (.int (0 : Int32)) := (Arv.new A3 (by decide)).pad (pad_rep [] (.int (0 : Int32)) 0)
  refine oWk.st (fun _ kt => st _ kt) ?_
  have E_o2 := (E_o2.ext E3)
  have F_value_o2 := (F_value_o2.ext E3)
  have F_coder_o2 := (F_coder_o2.ext E3)
  have Oh := K.old O0 all0
  have V_buf := (V_buf.ext E3)
  obtain ⟨_, _, ⟨T, L5, k5, n5⟩, -, X, hS, hgr, ⟨Lc5, hQ, l5, y5, z5, C⟩, st⟩ := X.specialBackS hx (y := yy18) rfl hown (mvT hZ (oW hw 17 rfl)) (mvT hZ (oW hw 18 rfl)) (mvT hZ (oW hw 19 rfl)) (by decide) (oBackH (W := 1) (rI1_0 l Z a0 hw [] o2 o3 k3 .null (.int (0 : Int32)) h Oh (Nat.le_trans O0.1 ge_o2) E_o2 F_value_o2 F_coder_o2 V_o3) hZ (oW hw 19 rfl) (oW hw 16 rfl) (by decide) (by decide) (oELw hw) B.2.1 (allS ⟨E_o2.lt, sf_o2⟩ all0)) (g := (mkF m 47 #[iv 0, iv xc, iv xd, rv buf, iv 0] [(.ref o3), (.ref o2), (.ref o2)])) rfl (by rw [hml]; rfl) (Steps.refl _) (a := o2) (argsL := [(.ref o3)]) (rest := [(.ref o2)]) (lenOf pd_19 rfl) rfl (Nat.le_of_eq rfl) (hb hby d3_47) (fun _ _ => ⟨rfl, e0, (by decide : 3 + 4 ≤ _), (by decide : 8 + 8 ≤ _)⟩)
  dsimp only [Pt.U, Pt.locs, Pt.cells, Pt.slots] at X l5 y5 z5 st hQ C hS hgr
  subst l5 y5 z5
  have X : Stand p l e _ (s.setVm T.vm) m _ below meth c T _ _ _ := X
  obtain ⟨h, e2⟩ : ∃ z, T.heap = z := ⟨_, rfl⟩
  have B := B.call e0 hS hgr C e2
  obtain ⟨hZ, hown⟩ := oWide hZ hown hS
  rw [e2] at hQ C
  have sf_buf := C.safe V_buf.lt sf_buf
  have sf_o2 := C.safe E_o2.lt sf_o2
  have sf_o3 := C.safe V_o3.lt sf_o3
  have e0 := e2
  obtain ⟨nb4, nk4, rfl, K4, E_o2, F_coder_o2, F_value_o2, V_nb4⟩ := hQ
  have K := K.call K4 (allS (Or.inr ge_o2) all0)
  refine oWk.to (mkF m 50 #[iv 0, iv xc, iv xd, rv buf, iv 0] [(.ref o2)]) (fun _ kt => st.trans kt) ?_
  exact oRetH X hx hlk hZ (oELw hw) e0 B hret (oNarR rfl rfl) (Or.inr (Or.inr (Or.inr (Or.inr ⟨rfl, rfl, rfl⟩)))) (hb hby d3_50) (by rw [e0]; exact ⟨o2, rfl, K, ge_o2, (by show oTx Z _ _ []; exact ⟨_, _, E_o2, F_value_o2, Or.inl ⟨F_coder_o2, V_nb4, oA0⟩⟩)⟩) (by decide) (by decide)
def Q_rSt_1 (Z : State) (xc xd xz : Int32) (h0 : Heap) (v : Option Value) (h : Heap) (L : List Loc) : Prop := ∃ (nr : Addr), v = some (.ref nr) ∧ oKp h0 h [] L ∧ (h0.size ≤ nr) ∧ (oTx Z h nr (oSO 1 xc xd))
theorem d3_12 : decode method_8_code 12 = .ok (.aload_n 3, 1) := by decide +kernel
theorem d3_13 : decode method_8_code 13 = .ok (.iload 4, 2) := by decide +kernel
theorem d3_15 : decode method_8_code 15 = .ok (.iload_n 1, 1) := by decide +kernel
theorem d3_16 : decode method_8_code 16 = .ok (.invokestatic 40, 3) := by decide +kernel
theorem pd_20 : parseMethodDescriptor "([CII)I" = some ⟨[(.array .char), .int, .int], some .int⟩ := by decide +kernel
theorem cs24 {a0 : Array Value} {Z : State} (hw : oHW a0 Z) : oCall Z Y7 (.invokestatic 40) yy16 method_7_code 4 (some .int) (oRs 3) := oCall.stat (oW hw 64 rfl) (oW hw 65 rfl) (oW hw 2 rfl) (oW hw 66 rfl) (by decide) pd_20
theorem d3_19 : decode method_8_code 19 = .ok (.istore 4, 2) := by decide +kernel
theorem d3_51 : decode method_8_code 51 = .ok (.iload 4, 2) := by decide +kernel
theorem d3_53 : decode method_8_code 53 = .ok (.iconst 1, 1) := by decide +kernel
theorem d3_54 : decode method_8_code 54 = .ok (.if_icmp .ne 20, 3) := by decide +kernel
theorem d3_57 : decode method_8_code 57 = .ok (.new 44, 3) := by decide +kernel
theorem d3_60 : decode method_8_code 60 = .ok (.dup, 1) := by decide +kernel
theorem d3_61 : decode method_8_code 61 = .ok (.iconst 1, 1) := by decide +kernel
theorem d3_62 : decode method_8_code 62 = .ok (.newarray .char, 2) := by decide +kernel
theorem d3_64 : decode method_8_code 64 = .ok (.dup, 1) := by decide +kernel
theorem d3_65 : decode method_8_code 65 = .ok (.iconst 0, 1) := by decide +kernel
theorem d3_66 : decode method_8_code 66 = .ok (.aload_n 3, 1) := by decide +kernel
theorem d3_67 : decode method_8_code 67 = .ok (.iconst 0, 1) := by decide +kernel
theorem d3_68 : decode method_8_code 68 = .ok (.caload, 1) := by decide +kernel
theorem d3_69 : decode method_8_code 69 = .ok (.castore, 1) := by decide +kernel
theorem d3_70 : decode method_8_code 70 = .ok (.invokespecial 46, 3) := by decide +kernel
theorem cs25 {a0 : Array Value} {Z : State} (hw : oHW a0 Z) : oCall Z Y7 (.invokespecial 46) yy18 jdk_42_method_3_code 2 none (oRi 1) := oCall.init rfl (oW hw 17 rfl) (oW hw 18 rfl) (oW hw 16 rfl) (oW hw 19 rfl) (by decide) pd_19
theorem d3_73 : decode method_8_code 73 = .ok (.areturn, 1) := by decide +kernel
theorem d3_74 : decode method_8_code 74 = .ok (.iload 4, 2) := by decide +kernel
theorem d3_76 : decode method_8_code 76 = .ok (.iconst 2, 1) := by decide +kernel
theorem d3_77 : decode method_8_code 77 = .ok (.if_icmp .ne 26, 3) := by decide +kernel
theorem d3_80 : decode method_8_code 80 = .ok (.new 44, 3) := by decide +kernel
theorem d3_83 : decode method_8_code 83 = .ok (.dup, 1) := by decide +kernel
theorem d3_84 : decode method_8_code 84 = .ok (.iconst 2, 1) := by decide +kernel
theorem d3_85 : decode method_8_code 85 = .ok (.newarray .char, 2) := by decide +kernel
theorem d3_87 : decode method_8_code 87 = .ok (.dup, 1) := by decide +kernel
theorem d3_88 : decode method_8_code 88 = .ok (.iconst 0, 1) := by decide +kernel
theorem d3_89 : decode method_8_code 89 = .ok (.aload_n 3, 1) := by decide +kernel
theorem d3_90 : decode method_8_code 90 = .ok (.iconst 0, 1) := by decide +kernel
theorem d3_91 : decode method_8_code 91 = .ok (.caload, 1) := by decide +kernel
theorem d3_92 : decode method_8_code 92 = .ok (.castore, 1) := by decide +kernel
theorem d3_93 : decode method_8_code 93 = .ok (.dup, 1) := by decide +kernel
theorem d3_94 : decode method_8_code 94 = .ok (.iconst 1, 1) := by decide +kernel
theorem d3_95 : decode method_8_code 95 = .ok (.aload_n 3, 1) := by decide +kernel
theorem d3_96 : decode method_8_code 96 = .ok (.iconst 1, 1) := by decide +kernel
theorem d3_97 : decode method_8_code 97 = .ok (.caload, 1) := by decide +kernel
theorem d3_98 : decode method_8_code 98 = .ok (.castore, 1) := by decide +kernel
theorem d3_99 : decode method_8_code 99 = .ok (.invokespecial 46, 3) := by decide +kernel
theorem d3_102 : decode method_8_code 102 = .ok (.areturn, 1) := by decide +kernel
theorem rSt_1 (l : Launch) (Z : State) (a0 : Array Value) (hw : oHW a0 Z) (ws : List Jvm.Cond) (xc xd xz : Int32) (h0 : Heap) (O0 : Ext Z.heap h0) (S_Z : Sta Z Z.heap Y0 Y2 "Z" (.int xz)) (hz : ¬ xz = (0 : Int32)) (S_A : Sta Z Z.heap Y1 Y3 "Z" (.int (1 : Int32))) (S_H : Sta Z Z.heap Y1 "HI_BYTE_SHIFT" "I" (.int (0 : Int32))) (S_L : Sta Z Z.heap Y1 "LO_BYTE_SHIFT" "I" (.int (8 : Int32))) (cp1 : oCp xc) :
    oCon l Z yy26 method_8_code 5 (some (.object Y0)) ws ({ frames := 6, cells := 5, slots := 16, locals := 88 } : Room) #[(.int (1 : Int32)), (.int xc), (.int xd)] h0 (Q_rSt_1 Z xc xd xz h0) := by
  refine oCon.of (plainFor_of_name pn_7) ?_
  intro p e s m below meth c T X hx hby hml hown hnm hret hlk hZ e0
  have hml : c.maxLocals = 5 := hml
  have K : oKp h0 h0 [] [] := oKp.nil _ _
  refine oWk.cast (g' := (mkF m 0 #[iv 1, iv xc, iv xd, uu, uu] [])) (by first | rfl | (simp [entryFrame, mkF, argsToLocals, Value.category]; done)) ?_
  refine oWk.st (fun _ kt => zK X hx hby d3_0 rfl kt) ?_
  obtain ⟨buf, g1⟩ : ∃ z, z = h0.size := ⟨_, rfl⟩
  have ge_buf : h0.size ≤ buf := Nat.le_trans K.le (Nat.le_of_eq g1.symm)
  obtain ⟨T, h, k1, X, e0, E1, A1, st⟩ := newP X hx hZ (oW hw 13 rfl) e0 (g := (mkF m 1 #[iv 1, iv xc, iv xd, uu, uu] [(.int 4)])) rfl (hb hby d3_1) rfl (by decide) (cap := 4) (by decide) (by decide) (by decide) (by decide)
  rw [← g1] at A1 st
  have K := K.ext E1
  have V_buf : Arv Z h buf k1 .char (4 : Int32) [(.int (0 : Int32)), (.int (0 : Int32)), (.int (0 : Int32)), (.int (0 : Int32))] (.int (0 : Int32)) := (Arv.new A1 (by decide)).pad (pad_rep [] (.int (0 : Int32)) 4)
  refine oWk.to (mkF m 12 #[iv 1, iv xc, iv xd, rv buf, iv 0] []) (fun _ kt => st _ (zTn X hx hby d3_3 rfl rfl rfl (l' := #[iv 1, iv xc, iv xd, rv buf, uu]) rfl (zK X hx hby d3_4 rfl (zS X hx hby d3_5 rfl rfl (l' := #[iv 1, iv xc, iv xd, rv buf, iv 0]) rfl (zI X hx hby d3_7 rfl rfl (zK X hx hby d3_8 rfl (zN X hx hby d3_9 rfl rfl (flt (by decide)).1 kt))))))) ?_
  by_cases hB1 : xc < (65536 : Int32)
  · show oWk _ _ _ _ T (mkF m 12 #[iv 1, iv xc, iv xd, rv buf, iv 0] [])
    refine oWk.st (fun _ kt => zA X hx hby d3_12 rfl rfl rfl (zJ X hx hby d3_13 rfl rfl (zI X hx hby d3_15 rfl rfl kt))) ?_
    have Oh := K.old O0 all0
    obtain ⟨_, T, h, Lc3, X, e0, hQ, st⟩ := (cs24 hw).run X hx hZ hown e0 (A := [(.ref buf), (.int (0 : Int32)), (.int xc)]) rfl (rPcB_0 l Z a0 hw [] buf k1 xc (0 : Int32) (0 : Int32) (0 : Int32) (0 : Int32) h Oh (Nat.le_trans O0.1 ge_buf) V_buf cp1 hB1) (W := 0) (by decide) hml (Ls := #[iv 1, iv xc, iv xd, rv buf, iv 0]) rfl (rest := []) rfl rfl hby d3_16
    obtain ⟨rfl, K2, V_buf⟩ := hQ
    have K := K.call K2 (allS (Or.inr ge_buf) all0)
    refine oWk.to (mkF m 51 #[iv 1, iv xc, iv xd, rv buf, iv 1] []) (fun _ kt => st _ (zS X hx hby d3_19 rfl rfl (l' := #[iv 1, iv xc, iv xd, rv buf, iv 1]) rfl (zI X hx hby d3_21 rfl rfl (zK X hx hby d3_22 rfl (zY X hx hby d3_23 rfl rfl (tlt (by decide)).1 (pc' := 35) rfl (zJ X hx hby d3_35 rfl rfl (zF X hx hby d3_37 rfl rfl ((if0 _ _).trans (feq (by decide)).2) (pc' := 51) rfl kt))))))) ?_
    refine oWk.to (mkF m 57 #[iv 1, iv xc, iv xd, rv buf, iv 1] []) (fun _ kt => zJ X hx hby d3_51 rfl rfl (zK X hx hby d3_53 rfl (zN X hx hby d3_54 rfl rfl (teq (by decide)).2 kt))) ?_
    rcases oLU1 xc with hl0 | hU
    · show oWk _ _ _ _ T (mkF m 57 #[iv 1, iv xc, iv xd, rv buf, iv 1] [])
      obtain ⟨o4, g4⟩ : ∃ z, z = h.size := ⟨_, rfl⟩
      have ne_buf_o4 : buf ≠ o4 := Nat.ne_of_lt (Nat.lt_of_lt_of_le V_buf.lt (Nat.le_of_eq g4.symm))
      have ge_o4 : h0.size ≤ o4 := Nat.le_trans K.le (Nat.le_of_eq g4.symm)
      obtain ⟨T, h, X, e0, E4, A4, D4, -, st⟩ := newO X hx hZ hown (oW hw 14 rfl) (oW hw 15 rfl) (oW hw 16 rfl) e0 (g := (mkF m 57 #[iv 1, iv xc, iv xd, rv buf, iv 1] [])) rfl (hb hby d3_57) (by decide) (by decide)
      rw [← g4] at A4 D4 st
      have K := K.ext E4
      have E_o4 := A4
      have F_value_o4 : Fld Z h o4 Y0 "value" "[B" .null := D4 (Or.inr (oW hw 29 rfl)) (ty := (.array .byte)) (by decide)
      have F_coder_o4 : Fld Z h o4 Y0 "coder" "B" (.int (0 : Int32)) := D4 (Or.inr (oW hw 30 rfl)) (ty := .byte) (by decide)
      refine oWk.st (fun _ kt => st _ (zD X hx hby d3_60 rfl rfl rfl (zK X hx hby d3_61 rfl kt))) ?_
      obtain ⟨o5, g5⟩ : ∃ z, z = h.size := ⟨_, rfl⟩
      have V_buf := (V_buf.ext E4)
      have ne_buf_o5 : buf ≠ o5 := Nat.ne_of_lt (Nat.lt_of_lt_of_le V_buf.lt (Nat.le_of_eq g5.symm))
      have ne_o4_o5 : o4 ≠ o5 := Nat.ne_of_lt (Nat.lt_of_lt_of_le E_o4.lt (Nat.le_of_eq g5.symm))
      have ge_o5 : h0.size ≤ o5 := Nat.le_trans K.le (Nat.le_of_eq g5.symm)
      obtain ⟨T, h, k5, X, e0, E5, A5, st⟩ := newP X hx hZ (oW hw 13 rfl) e0 (g := (mkF m 62 #[iv 1, iv xc, iv xd, rv buf, iv 1] [(.int 1), (.ref o4), (.ref o4)])) rfl (hb hby d3_62) rfl (by decide) (cap := 1) (by decide) (by decide) (by decide) (by decide)
      rw [← g5] at A5 st
      have K := K.ext E5
      have V_o5 : Arv Z h o5 k5 .char (1 : Int32) [(.int (0 : Int32))] (.int (0 : Int32)) := (Arv.new A5 (by decide)).pad (pad_rep [] (.int (0 : Int32)) 1)
      refine oWk.st (fun _ kt => st _ (zD X hx hby d3_64 rfl rfl rfl (zK X hx hby d3_65 rfl (zA X hx hby d3_66 rfl rfl rfl (zK X hx hby d3_67 rfl kt))))) ?_
      have V_buf := (V_buf.ext E5)
      refine oWk.to (mkF m 69 #[iv 1, iv xc, iv xd, rv buf, iv 1] [(.int xc), (.int 0), (.ref o5), (.ref o5), (.ref o4), (.ref o4)]) (fun _ kt => oLdC X hx hZ e0 V_buf (0 : Int32) (.int xc) ⟨by decide, by decide⟩ rfl hby d3_68 rfl rfl kt) ?_
      obtain ⟨cl7, Ar7, q7, Sz7, Nn7, Hs7, Ft7⟩ := id V_o5
      have hin7 : ¬ ((0 : Int32) < 0 ∨ cl7.slots.size ≤ ((0 : Int32)).toNatClampNeg) := inb_of Sz7 ⟨by decide, by decide⟩
      obtain ⟨T, h, X, e0, W7, st⟩ := stC X hx hZ e0 Ar7 (j := (0 : Int32)) hin7 (g := (mkF m 69 #[iv 1, iv xc, iv xd, rv buf, iv 1] [(.int xc), (.int 0), (.ref o5), (.ref o5), (.ref o4), (.ref o4)])) rfl rfl (hb hby d3_69)
      have K := K.wr W7 (Or.inr ge_o5)
      have V_o5 := Arv.set Ar7 q7 Sz7 Nn7 Hs7 Ft7 (fits_nar_char _) W7 0 rfl (Nat.le_of_ble_eq_true rfl)
      rw [show nar .char xc = xc from oChrU (oB16 cp1 hB1)] at V_o5
      replace V_o5 : Arv Z h o5 k5 .char (1 : Int32) [(.int xc)] (.int (0 : Int32)) := V_o5
      refine oWk.st (fun _ kt => st _ kt) ?_
      have E_o4 := ((E_o4.ext E5).wr W7)
      have F_value_o4 := ((F_value_o4.ext E5).other W7 (Or.inl ne_o4_o5))
      have F_coder_o4 := ((F_coder_o4.ext E5).other W7 (Or.inl ne_o4_o5))
      have V_buf := (V_buf.other W7 ne_buf_o5)
      have lt_buf := V_buf.lt
      have lt_o4 := E_o4.lt
      have lt_o5 := V_o5.lt
      have Oh := K.old O0 all0
      obtain ⟨_, T, h, Lc9, X, e0, hQ, st⟩ := (cs25 hw).run X hx hZ hown e0 (A := [(.ref o4), (.ref o5)]) ⟨rfl, _, _, rfl⟩ (rI1_1 l Z a0 hw [] o4 o5 k5 xz .null (.int (0 : Int32)) xc h Oh S_Z hz (Nat.le_trans O0.1 ge_o4) E_o4 F_value_o4 F_coder_o4 V_o5 hl0) (W := 1) (by decide) hml (Ls := #[iv 1, iv xc, iv xd, rv buf, iv 1]) rfl (rest := [(.ref o4)]) rfl rfl hby d3_70
      obtain ⟨nb8, nk8, rfl, K8, E_o4, F_coder_o4, F_value_o4, gn_nb8, V_nb8⟩ := hQ
      have ge_nb8 := Nat.le_trans K.le gn_nb8
      have ne_buf_nb8 : buf ≠ nb8 := Nat.ne_of_lt (Nat.lt_of_lt_of_le lt_buf gn_nb8)
      have ne_o4_nb8 : o4 ≠ nb8 := Nat.ne_of_lt (Nat.lt_of_lt_of_le lt_o4 gn_nb8)
      have ne_o5_nb8 : o5 ≠ nb8 := Nat.ne_of_lt (Nat.lt_of_lt_of_le lt_o5 gn_nb8)
      have K := K.call K8 (allS (Or.inr ge_o4) all0)
      refine oWk.to (mkF m 73 #[iv 1, iv xc, iv xd, rv buf, iv 1] [(.ref o4)]) (fun _ kt => st _ kt) ?_
      exact oRetA X hx hlk hret rfl rfl (hb hby d3_73) (by rw [e0]; exact ⟨o4, rfl, K, ge_o4, (by show oTx Z _ _ (oEnc xc ++ []); rw [oEnc_b hB1]; exact ⟨_, _, E_o4, F_value_o4, Or.inl ⟨F_coder_o4, V_nb8, (oAS (oLt256 (oB16 cp1 hB1) hl0) oA0)⟩⟩)⟩) (by decide) (by decide)
    · show oWk _ _ _ _ T (mkF m 57 #[iv 1, iv xc, iv xd, rv buf, iv 1] [])
      obtain ⟨o10, g10⟩ : ∃ z, z = h.size := ⟨_, rfl⟩
      have ne_buf_o10 : buf ≠ o10 := Nat.ne_of_lt (Nat.lt_of_lt_of_le V_buf.lt (Nat.le_of_eq g10.symm))
      have ge_o10 : h0.size ≤ o10 := Nat.le_trans K.le (Nat.le_of_eq g10.symm)
      obtain ⟨T, h, X, e0, E10, A10, D10, -, st⟩ := newO X hx hZ hown (oW hw 14 rfl) (oW hw 15 rfl) (oW hw 16 rfl) e0 (g := (mkF m 57 #[iv 1, iv xc, iv xd, rv buf, iv 1] [])) rfl (hb hby d3_57) (by decide) (by decide)
      rw [← g10] at A10 D10 st
      have K := K.ext E10
      have E_o10 := A10
      have F_value_o10 : Fld Z h o10 Y0 "value" "[B" .null := D10 (Or.inr (oW hw 29 rfl)) (ty := (.array .byte)) (by decide)
      have F_coder_o10 : Fld Z h o10 Y0 "coder" "B" (.int (0 : Int32)) := D10 (Or.inr (oW hw 30 rfl)) (ty := .byte) (by decide)
      refine oWk.st (fun _ kt => st _ (zD X hx hby d3_60 rfl rfl rfl (zK X hx hby d3_61 rfl kt))) ?_
      obtain ⟨o11, g11⟩ : ∃ z, z = h.size := ⟨_, rfl⟩
      have V_buf := (V_buf.ext E10)
      have ne_buf_o11 : buf ≠ o11 := Nat.ne_of_lt (Nat.lt_of_lt_of_le V_buf.lt (Nat.le_of_eq g11.symm))
      have ne_o10_o11 : o10 ≠ o11 := Nat.ne_of_lt (Nat.lt_of_lt_of_le E_o10.lt (Nat.le_of_eq g11.symm))
      have ge_o11 : h0.size ≤ o11 := Nat.le_trans K.le (Nat.le_of_eq g11.symm)
      obtain ⟨T, h, k11, X, e0, E11, A11, st⟩ := newP X hx hZ (oW hw 13 rfl) e0 (g := (mkF m 62 #[iv 1, iv xc, iv xd, rv buf, iv 1] [(.int 1), (.ref o10), (.ref o10)])) rfl (hb hby d3_62) rfl (by decide) (cap := 1) (by decide) (by decide) (by decide) (by decide)
      rw [← g11] at A11 st
      have K := K.ext E11
      have V_o11 : Arv Z h o11 k11 .char (1 : Int32) [(.int (0 : Int32))] (.int (0 : Int32)) := (Arv.new A11 (by decide)).pad (pad_rep [] (.int (0 : Int32)) 1)
      refine oWk.st (fun _ kt => st _ (zD X hx hby d3_64 rfl rfl rfl (zK X hx hby d3_65 rfl (zA X hx hby d3_66 rfl rfl rfl (zK X hx hby d3_67 rfl kt))))) ?_
      have V_buf := (V_buf.ext E11)
      refine oWk.to (mkF m 69 #[iv 1, iv xc, iv xd, rv buf, iv 1] [(.int xc), (.int 0), (.ref o11), (.ref o11), (.ref o10), (.ref o10)]) (fun _ kt => oLdC X hx hZ e0 V_buf (0 : Int32) (.int xc) ⟨by decide, by decide⟩ rfl hby d3_68 rfl rfl kt) ?_
      obtain ⟨cl13, Ar13, q13, Sz13, Nn13, Hs13, Ft13⟩ := id V_o11
      have hin13 : ¬ ((0 : Int32) < 0 ∨ cl13.slots.size ≤ ((0 : Int32)).toNatClampNeg) := inb_of Sz13 ⟨by decide, by decide⟩
      obtain ⟨T, h, X, e0, W13, st⟩ := stC X hx hZ e0 Ar13 (j := (0 : Int32)) hin13 (g := (mkF m 69 #[iv 1, iv xc, iv xd, rv buf, iv 1] [(.int xc), (.int 0), (.ref o11), (.ref o11), (.ref o10), (.ref o10)])) rfl rfl (hb hby d3_69)
      have K := K.wr W13 (Or.inr ge_o11)
      have V_o11 := Arv.set Ar13 q13 Sz13 Nn13 Hs13 Ft13 (fits_nar_char _) W13 0 rfl (Nat.le_of_ble_eq_true rfl)
      rw [show nar .char xc = xc from oChrU (oB16 cp1 hB1)] at V_o11
      replace V_o11 : Arv Z h o11 k11 .char (1 : Int32) [(.int xc)] (.int (0 : Int32)) := V_o11
      refine oWk.st (fun _ kt => st _ kt) ?_
      have E_o10 := ((E_o10.ext E11).wr W13)
      have F_value_o10 := ((F_value_o10.ext E11).other W13 (Or.inl ne_o10_o11))
      have F_coder_o10 := ((F_coder_o10.ext E11).other W13 (Or.inl ne_o10_o11))
      have V_buf := (V_buf.other W13 ne_buf_o11)
      have lt_buf := V_buf.lt
      have lt_o10 := E_o10.lt
      have lt_o11 := V_o11.lt
      have Oh := K.old O0 all0
      obtain ⟨_, T, h, Lc15, X, e0, hQ, st⟩ := (cs25 hw).run X hx hZ hown e0 (A := [(.ref o10), (.ref o11)]) ⟨rfl, _, _, rfl⟩ (rI1U_1 l Z a0 hw [] o10 o11 k11 xz .null (.int (0 : Int32)) xc h Oh S_Z hz S_A S_H S_L (Nat.le_trans O0.1 ge_o10) E_o10 F_value_o10 F_coder_o10 V_o11 (oB16 cp1 hB1) hU) (W := 1) (by decide) hml (Ls := #[iv 1, iv xc, iv xd, rv buf, iv 1]) rfl (rest := [(.ref o10)]) rfl rfl hby d3_70
      obtain ⟨nb14, nk14, rfl, K14, E_o10, F_coder_o10, F_value_o10, gn_nb14, V_nb14⟩ := hQ
      have ge_nb14 := Nat.le_trans K.le gn_nb14
      have ne_buf_nb14 : buf ≠ nb14 := Nat.ne_of_lt (Nat.lt_of_lt_of_le lt_buf gn_nb14)
      have ne_o10_nb14 : o10 ≠ nb14 := Nat.ne_of_lt (Nat.lt_of_lt_of_le lt_o10 gn_nb14)
      have ne_o11_nb14 : o11 ≠ nb14 := Nat.ne_of_lt (Nat.lt_of_lt_of_le lt_o11 gn_nb14)
      have K := K.call K14 (allS (Or.inr ge_o10) all0)
      refine oWk.to (mkF m 73 #[iv 1, iv xc, iv xd, rv buf, iv 1] [(.ref o10)]) (fun _ kt => st _ kt) ?_
      exact oRetA X hx hlk hret rfl rfl (hb hby d3_73) (by rw [e0]; exact ⟨o10, rfl, K, ge_o10, (by show oTx Z _ _ (oEnc xc ++ []); rw [oEnc_b hB1]; exact ⟨_, _, E_o10, F_value_o10, Or.inr ⟨F_coder_o10, V_nb14, (oAS (oB16 cp1 hB1) oA0)⟩⟩)⟩) (by decide) (by decide)
  · show oWk _ _ _ _ T (mkF m 12 #[iv 1, iv xc, iv xd, rv buf, iv 0] [])
    refine oWk.st (fun _ kt => zA X hx hby d3_12 rfl rfl rfl (zJ X hx hby d3_13 rfl rfl (zI X hx hby d3_15 rfl rfl kt))) ?_
    have Oh := K.old O0 all0
    obtain ⟨_, T, h, Lc17, X, e0, hQ, st⟩ := (cs24 hw).run X hx hZ hown e0 (A := [(.ref buf), (.int (0 : Int32)), (.int xc)]) rfl (rPcS_0 l Z a0 hw [] buf k1 xc (0 : Int32) (0 : Int32) (0 : Int32) (0 : Int32) h Oh (Nat.le_trans O0.1 ge_buf) V_buf cp1 hB1) (W := 0) (by decide) hml (Ls := #[iv 1, iv xc, iv xd, rv buf, iv 0]) rfl (rest := []) rfl rfl hby d3_16
    obtain ⟨rfl, K16, V_buf⟩ := hQ
    have K := K.call K16 (allS (Or.inr ge_buf) all0)
    refine oWk.to (mkF m 51 #[iv 1, iv xc, iv xd, rv buf, iv 2] []) (fun _ kt => st _ (zS X hx hby d3_19 rfl rfl (l' := #[iv 1, iv xc, iv xd, rv buf, iv 2]) rfl (zI X hx hby d3_21 rfl rfl (zK X hx hby d3_22 rfl (zY X hx hby d3_23 rfl rfl (tlt (by decide)).1 (pc' := 35) rfl (zJ X hx hby d3_35 rfl rfl (zF X hx hby d3_37 rfl rfl ((if0 _ _).trans (feq (by decide)).2) (pc' := 51) rfl kt))))))) ?_
    refine oWk.to (mkF m 80 #[iv 1, iv xc, iv xd, rv buf, iv 2] []) (fun _ kt => zJ X hx hby d3_51 rfl rfl (zK X hx hby d3_53 rfl (zY X hx hby d3_54 rfl rfl (feq (by decide)).2 (pc' := 74) rfl (zJ X hx hby d3_74 rfl rfl (zK X hx hby d3_76 rfl (zN X hx hby d3_77 rfl rfl (teq (by decide)).2 kt)))))) ?_
    rcases oLU2 (oHi xc) (oLo xc) with ⟨hl0, hl1⟩ | hU
    · exact absurd (oHg cp1 hB1) hl0
    · show oWk _ _ _ _ T (mkF m 80 #[iv 1, iv xc, iv xd, rv buf, iv 2] [])
      obtain ⟨o18, g18⟩ : ∃ z, z = h.size := ⟨_, rfl⟩
      have ne_buf_o18 : buf ≠ o18 := Nat.ne_of_lt (Nat.lt_of_lt_of_le V_buf.lt (Nat.le_of_eq g18.symm))
      have ge_o18 : h0.size ≤ o18 := Nat.le_trans K.le (Nat.le_of_eq g18.symm)
      obtain ⟨T, h, X, e0, E18, A18, D18, -, st⟩ := newO X hx hZ hown (oW hw 14 rfl) (oW hw 15 rfl) (oW hw 16 rfl) e0 (g := (mkF m 80 #[iv 1, iv xc, iv xd, rv buf, iv 2] [])) rfl (hb hby d3_80) (by decide) (by decide)
      rw [← g18] at A18 D18 st
      have K := K.ext E18
      have E_o18 := A18
      have F_value_o18 : Fld Z h o18 Y0 "value" "[B" .null := D18 (Or.inr (oW hw 29 rfl)) (ty := (.array .byte)) (by decide)
      have F_coder_o18 : Fld Z h o18 Y0 "coder" "B" (.int (0 : Int32)) := D18 (Or.inr (oW hw 30 rfl)) (ty := .byte) (by decide)
      refine oWk.st (fun _ kt => st _ (zD X hx hby d3_83 rfl rfl rfl (zK X hx hby d3_84 rfl kt))) ?_
      obtain ⟨o19, g19⟩ : ∃ z, z = h.size := ⟨_, rfl⟩
      have V_buf := (V_buf.ext E18)
      have ne_buf_o19 : buf ≠ o19 := Nat.ne_of_lt (Nat.lt_of_lt_of_le V_buf.lt (Nat.le_of_eq g19.symm))
      have ne_o18_o19 : o18 ≠ o19 := Nat.ne_of_lt (Nat.lt_of_lt_of_le E_o18.lt (Nat.le_of_eq g19.symm))
      have ge_o19 : h0.size ≤ o19 := Nat.le_trans K.le (Nat.le_of_eq g19.symm)
      obtain ⟨T, h, k19, X, e0, E19, A19, st⟩ := newP X hx hZ (oW hw 13 rfl) e0 (g := (mkF m 85 #[iv 1, iv xc, iv xd, rv buf, iv 2] [(.int 2), (.ref o18), (.ref o18)])) rfl (hb hby d3_85) rfl (by decide) (cap := 2) (by decide) (by decide) (by decide) (by decide)
      rw [← g19] at A19 st
      have K := K.ext E19
      have V_o19 : Arv Z h o19 k19 .char (2 : Int32) [(.int (0 : Int32)), (.int (0 : Int32))] (.int (0 : Int32)) := (Arv.new A19 (by decide)).pad (pad_rep [] (.int (0 : Int32)) 2)
      refine oWk.st (fun _ kt => st _ (zD X hx hby d3_87 rfl rfl rfl (zK X hx hby d3_88 rfl (zA X hx hby d3_89 rfl rfl rfl (zK X hx hby d3_90 rfl kt))))) ?_
      have V_buf := (V_buf.ext E19)
      refine oWk.to (mkF m 92 #[iv 1, iv xc, iv xd, rv buf, iv 2] [(.int (oHi xc)), (.int 0), (.ref o19), (.ref o19), (.ref o18), (.ref o18)]) (fun _ kt => oLdC X hx hZ e0 V_buf (0 : Int32) (.int (oHi xc)) ⟨by decide, by decide⟩ rfl hby d3_91 rfl rfl kt) ?_
      obtain ⟨cl21, Ar21, q21, Sz21, Nn21, Hs21, Ft21⟩ := id V_o19
      have hin21 : ¬ ((0 : Int32) < 0 ∨ cl21.slots.size ≤ ((0 : Int32)).toNatClampNeg) := inb_of Sz21 ⟨by decide, by decide⟩
      obtain ⟨T, h, X, e0, W21, st⟩ := stC X hx hZ e0 Ar21 (j := (0 : Int32)) hin21 (g := (mkF m 92 #[iv 1, iv xc, iv xd, rv buf, iv 2] [(.int (oHi xc)), (.int 0), (.ref o19), (.ref o19), (.ref o18), (.ref o18)])) rfl rfl (hb hby d3_92)
      have K := K.wr W21 (Or.inr ge_o19)
      have V_o19 := Arv.set Ar21 q21 Sz21 Nn21 Hs21 Ft21 (fits_nar_char _) W21 0 rfl (Nat.le_of_ble_eq_true rfl)
      rw [show nar .char (oHi xc) = (oHi xc) from oChrU (oH16 cp1 hB1)] at V_o19
      replace V_o19 : Arv Z h o19 k19 .char (2 : Int32) [(.int (oHi xc)), (.int (0 : Int32))] (.int (0 : Int32)) := V_o19
      refine oWk.st (fun _ kt => st _ (zD X hx hby d3_93 rfl rfl rfl (zK X hx hby d3_94 rfl (zA X hx hby d3_95 rfl rfl rfl (zK X hx hby d3_96 rfl kt))))) ?_
      have V_buf := (V_buf.other W21 ne_buf_o19)
      refine oWk.to (mkF m 98 #[iv 1, iv xc, iv xd, rv buf, iv 2] [(.int (oLo xc)), (.int 1), (.ref o19), (.ref o19), (.ref o18), (.ref o18)]) (fun _ kt => oLdC X hx hZ e0 V_buf (1 : Int32) (.int (oLo xc)) ⟨by decide, by decide⟩ rfl hby d3_97 rfl rfl kt) ?_
      obtain ⟨cl23, Ar23, q23, Sz23, Nn23, Hs23, Ft23⟩ := id V_o19
      have hin23 : ¬ ((1 : Int32) < 0 ∨ cl23.slots.size ≤ ((1 : Int32)).toNatClampNeg) := inb_of Sz23 ⟨by decide, by decide⟩
      obtain ⟨T, h, X, e0, W23, st⟩ := stC X hx hZ e0 Ar23 (j := (1 : Int32)) hin23 (g := (mkF m 98 #[iv 1, iv xc, iv xd, rv buf, iv 2] [(.int (oLo xc)), (.int 1), (.ref o19), (.ref o19), (.ref o18), (.ref o18)])) rfl rfl (hb hby d3_98)
      have K := K.wr W23 (Or.inr ge_o19)
      have V_o19 := Arv.set Ar23 q23 Sz23 Nn23 Hs23 Ft23 (fits_nar_char _) W23 1 rfl (Nat.le_of_ble_eq_true rfl)
      rw [show nar .char (oLo xc) = (oLo xc) from oChrU (oL16 cp1 hB1)] at V_o19
      replace V_o19 : Arv Z h o19 k19 .char (2 : Int32) [(.int (oHi xc)), (.int (oLo xc))] (.int (0 : Int32)) := V_o19
      refine oWk.st (fun _ kt => st _ kt) ?_
      have E_o18 := (((E_o18.ext E19).wr W21).wr W23)
      have F_value_o18 := (((F_value_o18.ext E19).other W21 (Or.inl ne_o18_o19)).other W23 (Or.inl ne_o18_o19))
      have F_coder_o18 := (((F_coder_o18.ext E19).other W21 (Or.inl ne_o18_o19)).other W23 (Or.inl ne_o18_o19))
      have V_buf := (V_buf.other W23 ne_buf_o19)
      have lt_buf := V_buf.lt
      have lt_o18 := E_o18.lt
      have lt_o19 := V_o19.lt
      have Oh := K.old O0 all0
      obtain ⟨_, T, h, Lc25, X, e0, hQ, st⟩ := (cs25 hw).run X hx hZ hown e0 (A := [(.ref o18), (.ref o19)]) ⟨rfl, _, _, rfl⟩ (rI1U_2 l Z a0 hw [] o18 o19 k19 xz .null (.int (0 : Int32)) (oHi xc) (oLo xc) h Oh S_Z hz S_A S_H S_L (Nat.le_trans O0.1 ge_o18) E_o18 F_value_o18 F_coder_o18 V_o19 (oH16 cp1 hB1) (oL16 cp1 hB1) hU) (W := 1) (by decide) hml (Ls := #[iv 1, iv xc, iv xd, rv buf, iv 2]) rfl (rest := [(.ref o18)]) rfl rfl hby d3_99
      obtain ⟨nb24, nk24, rfl, K24, E_o18, F_coder_o18, F_value_o18, gn_nb24, V_nb24⟩ := hQ
      have ge_nb24 := Nat.le_trans K.le gn_nb24
      have ne_buf_nb24 : buf ≠ nb24 := Nat.ne_of_lt (Nat.lt_of_lt_of_le lt_buf gn_nb24)
      have ne_o18_nb24 : o18 ≠ nb24 := Nat.ne_of_lt (Nat.lt_of_lt_of_le lt_o18 gn_nb24)
      have ne_o19_nb24 : o19 ≠ nb24 := Nat.ne_of_lt (Nat.lt_of_lt_of_le lt_o19 gn_nb24)
      have K := K.call K24 (allS (Or.inr ge_o18) all0)
      refine oWk.to (mkF m 102 #[iv 1, iv xc, iv xd, rv buf, iv 2] [(.ref o18)]) (fun _ kt => st _ kt) ?_
      exact oRetA X hx hlk hret rfl rfl (hb hby d3_102) (by rw [e0]; exact ⟨o18, rfl, K, ge_o18, (by show oTx Z _ _ (oEnc xc ++ []); rw [oEnc_s hB1]; exact ⟨_, _, E_o18, F_value_o18, Or.inr ⟨F_coder_o18, V_nb24, (oAS (oH16 cp1 hB1) (oAS (oL16 cp1 hB1) oA0))⟩⟩)⟩) (by decide) (by decide)
def Q_rSt_2 (Z : State) (xc xd xz : Int32) (h0 : Heap) (v : Option Value) (h : Heap) (L : List Loc) : Prop := ∃ (nr : Addr), v = some (.ref nr) ∧ oKp h0 h [] L ∧ (h0.size ≤ nr) ∧ (oTx Z h nr (oSO 2 xc xd))
theorem d3_26 : decode method_8_code 26 = .ok (.aload_n 3, 1) := by decide +kernel
theorem d3_27 : decode method_8_code 27 = .ok (.iload 4, 2) := by decide +kernel
theorem d3_29 : decode method_8_code 29 = .ok (.iload_n 2, 1) := by decide +kernel
theorem d3_30 : decode method_8_code 30 = .ok (.invokestatic 40, 3) := by decide +kernel
theorem d3_33 : decode method_8_code 33 = .ok (.istore 4, 2) := by decide +kernel
theorem d3_103 : decode method_8_code 103 = .ok (.iload 4, 2) := by decide +kernel
theorem d3_105 : decode method_8_code 105 = .ok (.iconst 3, 1) := by decide +kernel
theorem d3_106 : decode method_8_code 106 = .ok (.if_icmp .ne 32, 3) := by decide +kernel
theorem d3_109 : decode method_8_code 109 = .ok (.new 44, 3) := by decide +kernel
theorem d3_112 : decode method_8_code 112 = .ok (.dup, 1) := by decide +kernel
theorem d3_113 : decode method_8_code 113 = .ok (.iconst 3, 1) := by decide +kernel
theorem d3_114 : decode method_8_code 114 = .ok (.newarray .char, 2) := by decide +kernel
theorem d3_116 : decode method_8_code 116 = .ok (.dup, 1) := by decide +kernel
theorem d3_117 : decode method_8_code 117 = .ok (.iconst 0, 1) := by decide +kernel
theorem d3_118 : decode method_8_code 118 = .ok (.aload_n 3, 1) := by decide +kernel
theorem d3_119 : decode method_8_code 119 = .ok (.iconst 0, 1) := by decide +kernel
theorem d3_120 : decode method_8_code 120 = .ok (.caload, 1) := by decide +kernel
theorem d3_121 : decode method_8_code 121 = .ok (.castore, 1) := by decide +kernel
theorem d3_122 : decode method_8_code 122 = .ok (.dup, 1) := by decide +kernel
theorem d3_123 : decode method_8_code 123 = .ok (.iconst 1, 1) := by decide +kernel
theorem d3_124 : decode method_8_code 124 = .ok (.aload_n 3, 1) := by decide +kernel
theorem d3_125 : decode method_8_code 125 = .ok (.iconst 1, 1) := by decide +kernel
theorem d3_126 : decode method_8_code 126 = .ok (.caload, 1) := by decide +kernel
theorem d3_127 : decode method_8_code 127 = .ok (.castore, 1) := by decide +kernel
theorem d3_128 : decode method_8_code 128 = .ok (.dup, 1) := by decide +kernel
theorem d3_129 : decode method_8_code 129 = .ok (.iconst 2, 1) := by decide +kernel
theorem d3_130 : decode method_8_code 130 = .ok (.aload_n 3, 1) := by decide +kernel
theorem d3_131 : decode method_8_code 131 = .ok (.iconst 2, 1) := by decide +kernel
theorem d3_132 : decode method_8_code 132 = .ok (.caload, 1) := by decide +kernel
theorem d3_133 : decode method_8_code 133 = .ok (.castore, 1) := by decide +kernel
theorem d3_134 : decode method_8_code 134 = .ok (.invokespecial 46, 3) := by decide +kernel
theorem d3_137 : decode method_8_code 137 = .ok (.areturn, 1) := by decide +kernel
theorem d3_138 : decode method_8_code 138 = .ok (.new 44, 3) := by decide +kernel
theorem d3_141 : decode method_8_code 141 = .ok (.dup, 1) := by decide +kernel
theorem d3_142 : decode method_8_code 142 = .ok (.iconst 4, 1) := by decide +kernel
theorem d3_143 : decode method_8_code 143 = .ok (.newarray .char, 2) := by decide +kernel
theorem d3_145 : decode method_8_code 145 = .ok (.dup, 1) := by decide +kernel
theorem d3_146 : decode method_8_code 146 = .ok (.iconst 0, 1) := by decide +kernel
theorem d3_147 : decode method_8_code 147 = .ok (.aload_n 3, 1) := by decide +kernel
theorem d3_148 : decode method_8_code 148 = .ok (.iconst 0, 1) := by decide +kernel
theorem d3_149 : decode method_8_code 149 = .ok (.caload, 1) := by decide +kernel
theorem d3_150 : decode method_8_code 150 = .ok (.castore, 1) := by decide +kernel
theorem d3_151 : decode method_8_code 151 = .ok (.dup, 1) := by decide +kernel
theorem d3_152 : decode method_8_code 152 = .ok (.iconst 1, 1) := by decide +kernel
theorem d3_153 : decode method_8_code 153 = .ok (.aload_n 3, 1) := by decide +kernel
theorem d3_154 : decode method_8_code 154 = .ok (.iconst 1, 1) := by decide +kernel
theorem d3_155 : decode method_8_code 155 = .ok (.caload, 1) := by decide +kernel
theorem d3_156 : decode method_8_code 156 = .ok (.castore, 1) := by decide +kernel
theorem d3_157 : decode method_8_code 157 = .ok (.dup, 1) := by decide +kernel
theorem d3_158 : decode method_8_code 158 = .ok (.iconst 2, 1) := by decide +kernel
theorem d3_159 : decode method_8_code 159 = .ok (.aload_n 3, 1) := by decide +kernel
theorem d3_160 : decode method_8_code 160 = .ok (.iconst 2, 1) := by decide +kernel
theorem d3_161 : decode method_8_code 161 = .ok (.caload, 1) := by decide +kernel
theorem d3_162 : decode method_8_code 162 = .ok (.castore, 1) := by decide +kernel
theorem d3_163 : decode method_8_code 163 = .ok (.dup, 1) := by decide +kernel
theorem d3_164 : decode method_8_code 164 = .ok (.iconst 3, 1) := by decide +kernel
theorem d3_165 : decode method_8_code 165 = .ok (.aload_n 3, 1) := by decide +kernel
theorem d3_166 : decode method_8_code 166 = .ok (.iconst 3, 1) := by decide +kernel
theorem d3_167 : decode method_8_code 167 = .ok (.caload, 1) := by decide +kernel
theorem d3_168 : decode method_8_code 168 = .ok (.castore, 1) := by decide +kernel
theorem d3_169 : decode method_8_code 169 = .ok (.invokespecial 46, 3) := by decide +kernel
theorem d3_172 : decode method_8_code 172 = .ok (.areturn, 1) := by decide +kernel
theorem rSt_2 (l : Launch) (Z : State) (a0 : Array Value) (hw : oHW a0 Z) (ws : List Jvm.Cond) (xc xd xz : Int32) (h0 : Heap) (O0 : Ext Z.heap h0) (S_Z : Sta Z Z.heap Y0 Y2 "Z" (.int xz)) (hz : ¬ xz = (0 : Int32)) (S_A : Sta Z Z.heap Y1 Y3 "Z" (.int (1 : Int32))) (S_H : Sta Z Z.heap Y1 "HI_BYTE_SHIFT" "I" (.int (0 : Int32))) (S_L : Sta Z Z.heap Y1 "LO_BYTE_SHIFT" "I" (.int (8 : Int32))) (cp1 : oCp xc) (cp2 : oCp xd) :
    oCon l Z yy26 method_8_code 5 (some (.object Y0)) ws ({ frames := 6, cells := 5, slots := 24, locals := 88 } : Room) #[(.int (2 : Int32)), (.int xc), (.int xd)] h0 (Q_rSt_2 Z xc xd xz h0) := by
  refine oCon.of (plainFor_of_name pn_7) ?_
  intro p e s m below meth c T X hx hby hml hown hnm hret hlk hZ e0
  have hml : c.maxLocals = 5 := hml
  have K : oKp h0 h0 [] [] := oKp.nil _ _
  refine oWk.cast (g' := (mkF m 0 #[iv 2, iv xc, iv xd, uu, uu] [])) (by first | rfl | (simp [entryFrame, mkF, argsToLocals, Value.category]; done)) ?_
  refine oWk.st (fun _ kt => zK X hx hby d3_0 rfl kt) ?_
  obtain ⟨buf, g1⟩ : ∃ z, z = h0.size := ⟨_, rfl⟩
  have ge_buf : h0.size ≤ buf := Nat.le_trans K.le (Nat.le_of_eq g1.symm)
  obtain ⟨T, h, k1, X, e0, E1, A1, st⟩ := newP X hx hZ (oW hw 13 rfl) e0 (g := (mkF m 1 #[iv 2, iv xc, iv xd, uu, uu] [(.int 4)])) rfl (hb hby d3_1) rfl (by decide) (cap := 4) (by decide) (by decide) (by decide) (by decide)
  rw [← g1] at A1 st
  have K := K.ext E1
  have V_buf : Arv Z h buf k1 .char (4 : Int32) [(.int (0 : Int32)), (.int (0 : Int32)), (.int (0 : Int32)), (.int (0 : Int32))] (.int (0 : Int32)) := (Arv.new A1 (by decide)).pad (pad_rep [] (.int (0 : Int32)) 4)
  refine oWk.to (mkF m 12 #[iv 2, iv xc, iv xd, rv buf, iv 0] []) (fun _ kt => st _ (zTn X hx hby d3_3 rfl rfl rfl (l' := #[iv 2, iv xc, iv xd, rv buf, uu]) rfl (zK X hx hby d3_4 rfl (zS X hx hby d3_5 rfl rfl (l' := #[iv 2, iv xc, iv xd, rv buf, iv 0]) rfl (zI X hx hby d3_7 rfl rfl (zK X hx hby d3_8 rfl (zN X hx hby d3_9 rfl rfl (flt (by decide)).1 kt))))))) ?_
  by_cases hB1 : xc < (65536 : Int32)
  · show oWk _ _ _ _ T (mkF m 12 #[iv 2, iv xc, iv xd, rv buf, iv 0] [])
    refine oWk.st (fun _ kt => zA X hx hby d3_12 rfl rfl rfl (zJ X hx hby d3_13 rfl rfl (zI X hx hby d3_15 rfl rfl kt))) ?_
    have Oh := K.old O0 all0
    obtain ⟨_, T, h, Lc3, X, e0, hQ, st⟩ := (cs24 hw).run X hx hZ hown e0 (A := [(.ref buf), (.int (0 : Int32)), (.int xc)]) rfl (rPcB_0 l Z a0 hw [] buf k1 xc (0 : Int32) (0 : Int32) (0 : Int32) (0 : Int32) h Oh (Nat.le_trans O0.1 ge_buf) V_buf cp1 hB1) (W := 0) (by decide) hml (Ls := #[iv 2, iv xc, iv xd, rv buf, iv 0]) rfl (rest := []) rfl rfl hby d3_16
    obtain ⟨rfl, K2, V_buf⟩ := hQ
    have K := K.call K2 (allS (Or.inr ge_buf) all0)
    refine oWk.to (mkF m 26 #[iv 2, iv xc, iv xd, rv buf, iv 1] []) (fun _ kt => st _ (zS X hx hby d3_19 rfl rfl (l' := #[iv 2, iv xc, iv xd, rv buf, iv 1]) rfl (zI X hx hby d3_21 rfl rfl (zK X hx hby d3_22 rfl (zN X hx hby d3_23 rfl rfl (flt (by decide)).1 kt))))) ?_
    by_cases hB2 : xd < (65536 : Int32)
    · show oWk _ _ _ _ T (mkF m 26 #[iv 2, iv xc, iv xd, rv buf, iv 1] [])
      refine oWk.st (fun _ kt => zA X hx hby d3_26 rfl rfl rfl (zJ X hx hby d3_27 rfl rfl (zI X hx hby d3_29 rfl rfl kt))) ?_
      have Oh := K.old O0 all0
      obtain ⟨_, T, h, Lc5, X, e0, hQ, st⟩ := (cs24 hw).run X hx hZ hown e0 (A := [(.ref buf), (.int (1 : Int32)), (.int xd)]) rfl (rPcB_1 l Z a0 hw [] buf k1 xd xc (0 : Int32) (0 : Int32) (0 : Int32) h Oh (Nat.le_trans O0.1 ge_buf) V_buf cp2 hB2) (W := 0) (by decide) hml (Ls := #[iv 2, iv xc, iv xd, rv buf, iv 1]) rfl (rest := []) rfl rfl hby d3_30
      obtain ⟨rfl, K4, V_buf⟩ := hQ
      have K := K.call K4 (allS (Or.inr ge_buf) all0)
      refine oWk.to (mkF m 74 #[iv 2, iv xc, iv xd, rv buf, iv 2] []) (fun _ kt => st _ (zS X hx hby d3_33 rfl rfl (l' := #[iv 2, iv xc, iv xd, rv buf, iv 2]) rfl (zJ X hx hby d3_35 rfl rfl (zF X hx hby d3_37 rfl rfl ((if0 _ _).trans (feq (by decide)).2) (pc' := 51) rfl (zJ X hx hby d3_51 rfl rfl (zK X hx hby d3_53 rfl (zY X hx hby d3_54 rfl rfl (feq (by decide)).2 (pc' := 74) rfl kt))))))) ?_
      refine oWk.to (mkF m 80 #[iv 2, iv xc, iv xd, rv buf, iv 2] []) (fun _ kt => zJ X hx hby d3_74 rfl rfl (zK X hx hby d3_76 rfl (zN X hx hby d3_77 rfl rfl (teq (by decide)).2 kt))) ?_
      rcases oLU2 xc xd with ⟨hl0, hl1⟩ | hU
      · show oWk _ _ _ _ T (mkF m 80 #[iv 2, iv xc, iv xd, rv buf, iv 2] [])
        obtain ⟨o6, g6⟩ : ∃ z, z = h.size := ⟨_, rfl⟩
        have ne_buf_o6 : buf ≠ o6 := Nat.ne_of_lt (Nat.lt_of_lt_of_le V_buf.lt (Nat.le_of_eq g6.symm))
        have ge_o6 : h0.size ≤ o6 := Nat.le_trans K.le (Nat.le_of_eq g6.symm)
        obtain ⟨T, h, X, e0, E6, A6, D6, -, st⟩ := newO X hx hZ hown (oW hw 14 rfl) (oW hw 15 rfl) (oW hw 16 rfl) e0 (g := (mkF m 80 #[iv 2, iv xc, iv xd, rv buf, iv 2] [])) rfl (hb hby d3_80) (by decide) (by decide)
        rw [← g6] at A6 D6 st
        have K := K.ext E6
        have E_o6 := A6
        have F_value_o6 : Fld Z h o6 Y0 "value" "[B" .null := D6 (Or.inr (oW hw 29 rfl)) (ty := (.array .byte)) (by decide)
        have F_coder_o6 : Fld Z h o6 Y0 "coder" "B" (.int (0 : Int32)) := D6 (Or.inr (oW hw 30 rfl)) (ty := .byte) (by decide)
        refine oWk.st (fun _ kt => st _ (zD X hx hby d3_83 rfl rfl rfl (zK X hx hby d3_84 rfl kt))) ?_
        obtain ⟨o7, g7⟩ : ∃ z, z = h.size := ⟨_, rfl⟩
        have V_buf := (V_buf.ext E6)
        have ne_buf_o7 : buf ≠ o7 := Nat.ne_of_lt (Nat.lt_of_lt_of_le V_buf.lt (Nat.le_of_eq g7.symm))
        have ne_o6_o7 : o6 ≠ o7 := Nat.ne_of_lt (Nat.lt_of_lt_of_le E_o6.lt (Nat.le_of_eq g7.symm))
        have ge_o7 : h0.size ≤ o7 := Nat.le_trans K.le (Nat.le_of_eq g7.symm)
        obtain ⟨T, h, k7, X, e0, E7, A7, st⟩ := newP X hx hZ (oW hw 13 rfl) e0 (g := (mkF m 85 #[iv 2, iv xc, iv xd, rv buf, iv 2] [(.int 2), (.ref o6), (.ref o6)])) rfl (hb hby d3_85) rfl (by decide) (cap := 2) (by decide) (by decide) (by decide) (by decide)
        rw [← g7] at A7 st
        have K := K.ext E7
        have V_o7 : Arv Z h o7 k7 .char (2 : Int32) [(.int (0 : Int32)), (.int (0 : Int32))] (.int (0 : Int32)) := (Arv.new A7 (by decide)).pad (pad_rep [] (.int (0 : Int32)) 2)
        refine oWk.st (fun _ kt => st _ (zD X hx hby d3_87 rfl rfl rfl (zK X hx hby d3_88 rfl (zA X hx hby d3_89 rfl rfl rfl (zK X hx hby d3_90 rfl kt))))) ?_
        have V_buf := (V_buf.ext E7)
        refine oWk.to (mkF m 92 #[iv 2, iv xc, iv xd, rv buf, iv 2] [(.int xc), (.int 0), (.ref o7), (.ref o7), (.ref o6), (.ref o6)]) (fun _ kt => oLdC X hx hZ e0 V_buf (0 : Int32) (.int xc) ⟨by decide, by decide⟩ rfl hby d3_91 rfl rfl kt) ?_
        obtain ⟨cl9, Ar9, q9, Sz9, Nn9, Hs9, Ft9⟩ := id V_o7
        have hin9 : ¬ ((0 : Int32) < 0 ∨ cl9.slots.size ≤ ((0 : Int32)).toNatClampNeg) := inb_of Sz9 ⟨by decide, by decide⟩
        obtain ⟨T, h, X, e0, W9, st⟩ := stC X hx hZ e0 Ar9 (j := (0 : Int32)) hin9 (g := (mkF m 92 #[iv 2, iv xc, iv xd, rv buf, iv 2] [(.int xc), (.int 0), (.ref o7), (.ref o7), (.ref o6), (.ref o6)])) rfl rfl (hb hby d3_92)
        have K := K.wr W9 (Or.inr ge_o7)
        have V_o7 := Arv.set Ar9 q9 Sz9 Nn9 Hs9 Ft9 (fits_nar_char _) W9 0 rfl (Nat.le_of_ble_eq_true rfl)
        rw [show nar .char xc = xc from oChrU (oB16 cp1 hB1)] at V_o7
        replace V_o7 : Arv Z h o7 k7 .char (2 : Int32) [(.int xc), (.int (0 : Int32))] (.int (0 : Int32)) := V_o7
        refine oWk.st (fun _ kt => st _ (zD X hx hby d3_93 rfl rfl rfl (zK X hx hby d3_94 rfl (zA X hx hby d3_95 rfl rfl rfl (zK X hx hby d3_96 rfl kt))))) ?_
        have V_buf := (V_buf.other W9 ne_buf_o7)
        refine oWk.to (mkF m 98 #[iv 2, iv xc, iv xd, rv buf, iv 2] [(.int xd), (.int 1), (.ref o7), (.ref o7), (.ref o6), (.ref o6)]) (fun _ kt => oLdC X hx hZ e0 V_buf (1 : Int32) (.int xd) ⟨by decide, by decide⟩ rfl hby d3_97 rfl rfl kt) ?_
        obtain ⟨cl11, Ar11, q11, Sz11, Nn11, Hs11, Ft11⟩ := id V_o7
        have hin11 : ¬ ((1 : Int32) < 0 ∨ cl11.slots.size ≤ ((1 : Int32)).toNatClampNeg) := inb_of Sz11 ⟨by decide, by decide⟩
        obtain ⟨T, h, X, e0, W11, st⟩ := stC X hx hZ e0 Ar11 (j := (1 : Int32)) hin11 (g := (mkF m 98 #[iv 2, iv xc, iv xd, rv buf, iv 2] [(.int xd), (.int 1), (.ref o7), (.ref o7), (.ref o6), (.ref o6)])) rfl rfl (hb hby d3_98)
        have K := K.wr W11 (Or.inr ge_o7)
        have V_o7 := Arv.set Ar11 q11 Sz11 Nn11 Hs11 Ft11 (fits_nar_char _) W11 1 rfl (Nat.le_of_ble_eq_true rfl)
        rw [show nar .char xd = xd from oChrU (oB16 cp2 hB2)] at V_o7
        replace V_o7 : Arv Z h o7 k7 .char (2 : Int32) [(.int xc), (.int xd)] (.int (0 : Int32)) := V_o7
        refine oWk.st (fun _ kt => st _ kt) ?_
        have E_o6 := (((E_o6.ext E7).wr W9).wr W11)
        have F_value_o6 := (((F_value_o6.ext E7).other W9 (Or.inl ne_o6_o7)).other W11 (Or.inl ne_o6_o7))
        have F_coder_o6 := (((F_coder_o6.ext E7).other W9 (Or.inl ne_o6_o7)).other W11 (Or.inl ne_o6_o7))
        have V_buf := (V_buf.other W11 ne_buf_o7)
        have lt_buf := V_buf.lt
        have lt_o6 := E_o6.lt
        have lt_o7 := V_o7.lt
        have Oh := K.old O0 all0
        obtain ⟨_, T, h, Lc13, X, e0, hQ, st⟩ := (cs25 hw).run X hx hZ hown e0 (A := [(.ref o6), (.ref o7)]) ⟨rfl, _, _, rfl⟩ (rI1_2 l Z a0 hw [] o6 o7 k7 xz .null (.int (0 : Int32)) xc xd h Oh S_Z hz (Nat.le_trans O0.1 ge_o6) E_o6 F_value_o6 F_coder_o6 V_o7 hl0 hl1) (W := 1) (by decide) hml (Ls := #[iv 2, iv xc, iv xd, rv buf, iv 2]) rfl (rest := [(.ref o6)]) rfl rfl hby d3_99
        obtain ⟨nb12, nk12, rfl, K12, E_o6, F_coder_o6, F_value_o6, gn_nb12, V_nb12⟩ := hQ
        have ge_nb12 := Nat.le_trans K.le gn_nb12
        have ne_buf_nb12 : buf ≠ nb12 := Nat.ne_of_lt (Nat.lt_of_lt_of_le lt_buf gn_nb12)
        have ne_o6_nb12 : o6 ≠ nb12 := Nat.ne_of_lt (Nat.lt_of_lt_of_le lt_o6 gn_nb12)
        have ne_o7_nb12 : o7 ≠ nb12 := Nat.ne_of_lt (Nat.lt_of_lt_of_le lt_o7 gn_nb12)
        have K := K.call K12 (allS (Or.inr ge_o6) all0)
        refine oWk.to (mkF m 102 #[iv 2, iv xc, iv xd, rv buf, iv 2] [(.ref o6)]) (fun _ kt => st _ kt) ?_
        exact oRetA X hx hlk hret rfl rfl (hb hby d3_102) (by rw [e0]; exact ⟨o6, rfl, K, ge_o6, (by show oTx Z _ _ (oEnc xc ++ (oEnc xd ++ [])); rw [oEnc_b hB1, oEnc_b hB2]; exact ⟨_, _, E_o6, F_value_o6, Or.inl ⟨F_coder_o6, V_nb12, (oAS (oLt256 (oB16 cp1 hB1) hl0) (oAS (oLt256 (oB16 cp2 hB2) hl1) oA0))⟩⟩)⟩) (by decide) (by decide)
      · show oWk _ _ _ _ T (mkF m 80 #[iv 2, iv xc, iv xd, rv buf, iv 2] [])
        obtain ⟨o14, g14⟩ : ∃ z, z = h.size := ⟨_, rfl⟩
        have ne_buf_o14 : buf ≠ o14 := Nat.ne_of_lt (Nat.lt_of_lt_of_le V_buf.lt (Nat.le_of_eq g14.symm))
        have ge_o14 : h0.size ≤ o14 := Nat.le_trans K.le (Nat.le_of_eq g14.symm)
        obtain ⟨T, h, X, e0, E14, A14, D14, -, st⟩ := newO X hx hZ hown (oW hw 14 rfl) (oW hw 15 rfl) (oW hw 16 rfl) e0 (g := (mkF m 80 #[iv 2, iv xc, iv xd, rv buf, iv 2] [])) rfl (hb hby d3_80) (by decide) (by decide)
        rw [← g14] at A14 D14 st
        have K := K.ext E14
        have E_o14 := A14
        have F_value_o14 : Fld Z h o14 Y0 "value" "[B" .null := D14 (Or.inr (oW hw 29 rfl)) (ty := (.array .byte)) (by decide)
        have F_coder_o14 : Fld Z h o14 Y0 "coder" "B" (.int (0 : Int32)) := D14 (Or.inr (oW hw 30 rfl)) (ty := .byte) (by decide)
        refine oWk.st (fun _ kt => st _ (zD X hx hby d3_83 rfl rfl rfl (zK X hx hby d3_84 rfl kt))) ?_
        obtain ⟨o15, g15⟩ : ∃ z, z = h.size := ⟨_, rfl⟩
        have V_buf := (V_buf.ext E14)
        have ne_buf_o15 : buf ≠ o15 := Nat.ne_of_lt (Nat.lt_of_lt_of_le V_buf.lt (Nat.le_of_eq g15.symm))
        have ne_o14_o15 : o14 ≠ o15 := Nat.ne_of_lt (Nat.lt_of_lt_of_le E_o14.lt (Nat.le_of_eq g15.symm))
        have ge_o15 : h0.size ≤ o15 := Nat.le_trans K.le (Nat.le_of_eq g15.symm)
        obtain ⟨T, h, k15, X, e0, E15, A15, st⟩ := newP X hx hZ (oW hw 13 rfl) e0 (g := (mkF m 85 #[iv 2, iv xc, iv xd, rv buf, iv 2] [(.int 2), (.ref o14), (.ref o14)])) rfl (hb hby d3_85) rfl (by decide) (cap := 2) (by decide) (by decide) (by decide) (by decide)
        rw [← g15] at A15 st
        have K := K.ext E15
        have V_o15 : Arv Z h o15 k15 .char (2 : Int32) [(.int (0 : Int32)), (.int (0 : Int32))] (.int (0 : Int32)) := (Arv.new A15 (by decide)).pad (pad_rep [] (.int (0 : Int32)) 2)
        refine oWk.st (fun _ kt => st _ (zD X hx hby d3_87 rfl rfl rfl (zK X hx hby d3_88 rfl (zA X hx hby d3_89 rfl rfl rfl (zK X hx hby d3_90 rfl kt))))) ?_
        have V_buf := (V_buf.ext E15)
        refine oWk.to (mkF m 92 #[iv 2, iv xc, iv xd, rv buf, iv 2] [(.int xc), (.int 0), (.ref o15), (.ref o15), (.ref o14), (.ref o14)]) (fun _ kt => oLdC X hx hZ e0 V_buf (0 : Int32) (.int xc) ⟨by decide, by decide⟩ rfl hby d3_91 rfl rfl kt) ?_
        obtain ⟨cl17, Ar17, q17, Sz17, Nn17, Hs17, Ft17⟩ := id V_o15
        have hin17 : ¬ ((0 : Int32) < 0 ∨ cl17.slots.size ≤ ((0 : Int32)).toNatClampNeg) := inb_of Sz17 ⟨by decide, by decide⟩
        obtain ⟨T, h, X, e0, W17, st⟩ := stC X hx hZ e0 Ar17 (j := (0 : Int32)) hin17 (g := (mkF m 92 #[iv 2, iv xc, iv xd, rv buf, iv 2] [(.int xc), (.int 0), (.ref o15), (.ref o15), (.ref o14), (.ref o14)])) rfl rfl (hb hby d3_92)
        have K := K.wr W17 (Or.inr ge_o15)
        have V_o15 := Arv.set Ar17 q17 Sz17 Nn17 Hs17 Ft17 (fits_nar_char _) W17 0 rfl (Nat.le_of_ble_eq_true rfl)
        rw [show nar .char xc = xc from oChrU (oB16 cp1 hB1)] at V_o15
        replace V_o15 : Arv Z h o15 k15 .char (2 : Int32) [(.int xc), (.int (0 : Int32))] (.int (0 : Int32)) := V_o15
        refine oWk.st (fun _ kt => st _ (zD X hx hby d3_93 rfl rfl rfl (zK X hx hby d3_94 rfl (zA X hx hby d3_95 rfl rfl rfl (zK X hx hby d3_96 rfl kt))))) ?_
        have V_buf := (V_buf.other W17 ne_buf_o15)
        refine oWk.to (mkF m 98 #[iv 2, iv xc, iv xd, rv buf, iv 2] [(.int xd), (.int 1), (.ref o15), (.ref o15), (.ref o14), (.ref o14)]) (fun _ kt => oLdC X hx hZ e0 V_buf (1 : Int32) (.int xd) ⟨by decide, by decide⟩ rfl hby d3_97 rfl rfl kt) ?_
        obtain ⟨cl19, Ar19, q19, Sz19, Nn19, Hs19, Ft19⟩ := id V_o15
        have hin19 : ¬ ((1 : Int32) < 0 ∨ cl19.slots.size ≤ ((1 : Int32)).toNatClampNeg) := inb_of Sz19 ⟨by decide, by decide⟩
        obtain ⟨T, h, X, e0, W19, st⟩ := stC X hx hZ e0 Ar19 (j := (1 : Int32)) hin19 (g := (mkF m 98 #[iv 2, iv xc, iv xd, rv buf, iv 2] [(.int xd), (.int 1), (.ref o15), (.ref o15), (.ref o14), (.ref o14)])) rfl rfl (hb hby d3_98)
        have K := K.wr W19 (Or.inr ge_o15)
        have V_o15 := Arv.set Ar19 q19 Sz19 Nn19 Hs19 Ft19 (fits_nar_char _) W19 1 rfl (Nat.le_of_ble_eq_true rfl)
        rw [show nar .char xd = xd from oChrU (oB16 cp2 hB2)] at V_o15
        replace V_o15 : Arv Z h o15 k15 .char (2 : Int32) [(.int xc), (.int xd)] (.int (0 : Int32)) := V_o15
        refine oWk.st (fun _ kt => st _ kt) ?_
        have E_o14 := (((E_o14.ext E15).wr W17).wr W19)
        have F_value_o14 := (((F_value_o14.ext E15).other W17 (Or.inl ne_o14_o15)).other W19 (Or.inl ne_o14_o15))
        have F_coder_o14 := (((F_coder_o14.ext E15).other W17 (Or.inl ne_o14_o15)).other W19 (Or.inl ne_o14_o15))
        have V_buf := (V_buf.other W19 ne_buf_o15)
        have lt_buf := V_buf.lt
        have lt_o14 := E_o14.lt
        have lt_o15 := V_o15.lt
        have Oh := K.old O0 all0
        obtain ⟨_, T, h, Lc21, X, e0, hQ, st⟩ := (cs25 hw).run X hx hZ hown e0 (A := [(.ref o14), (.ref o15)]) ⟨rfl, _, _, rfl⟩ (rI1U_2 l Z a0 hw [] o14 o15 k15 xz .null (.int (0 : Int32)) xc xd h Oh S_Z hz S_A S_H S_L (Nat.le_trans O0.1 ge_o14) E_o14 F_value_o14 F_coder_o14 V_o15 (oB16 cp1 hB1) (oB16 cp2 hB2) hU) (W := 1) (by decide) hml (Ls := #[iv 2, iv xc, iv xd, rv buf, iv 2]) rfl (rest := [(.ref o14)]) rfl rfl hby d3_99
        obtain ⟨nb20, nk20, rfl, K20, E_o14, F_coder_o14, F_value_o14, gn_nb20, V_nb20⟩ := hQ
        have ge_nb20 := Nat.le_trans K.le gn_nb20
        have ne_buf_nb20 : buf ≠ nb20 := Nat.ne_of_lt (Nat.lt_of_lt_of_le lt_buf gn_nb20)
        have ne_o14_nb20 : o14 ≠ nb20 := Nat.ne_of_lt (Nat.lt_of_lt_of_le lt_o14 gn_nb20)
        have ne_o15_nb20 : o15 ≠ nb20 := Nat.ne_of_lt (Nat.lt_of_lt_of_le lt_o15 gn_nb20)
        have K := K.call K20 (allS (Or.inr ge_o14) all0)
        refine oWk.to (mkF m 102 #[iv 2, iv xc, iv xd, rv buf, iv 2] [(.ref o14)]) (fun _ kt => st _ kt) ?_
        exact oRetA X hx hlk hret rfl rfl (hb hby d3_102) (by rw [e0]; exact ⟨o14, rfl, K, ge_o14, (by show oTx Z _ _ (oEnc xc ++ (oEnc xd ++ [])); rw [oEnc_b hB1, oEnc_b hB2]; exact ⟨_, _, E_o14, F_value_o14, Or.inr ⟨F_coder_o14, V_nb20, (oAS (oB16 cp1 hB1) (oAS (oB16 cp2 hB2) oA0))⟩⟩)⟩) (by decide) (by decide)
    · show oWk _ _ _ _ T (mkF m 26 #[iv 2, iv xc, iv xd, rv buf, iv 1] [])
      refine oWk.st (fun _ kt => zA X hx hby d3_26 rfl rfl rfl (zJ X hx hby d3_27 rfl rfl (zI X hx hby d3_29 rfl rfl kt))) ?_
      have Oh := K.old O0 all0
      obtain ⟨_, T, h, Lc23, X, e0, hQ, st⟩ := (cs24 hw).run X hx hZ hown e0 (A := [(.ref buf), (.int (1 : Int32)), (.int xd)]) rfl (rPcS_1 l Z a0 hw [] buf k1 xd xc (0 : Int32) (0 : Int32) (0 : Int32) h Oh (Nat.le_trans O0.1 ge_buf) V_buf cp2 hB2) (W := 0) (by decide) hml (Ls := #[iv 2, iv xc, iv xd, rv buf, iv 1]) rfl (rest := []) rfl rfl hby d3_30
      obtain ⟨rfl, K22, V_buf⟩ := hQ
      have K := K.call K22 (allS (Or.inr ge_buf) all0)
      refine oWk.to (mkF m 74 #[iv 2, iv xc, iv xd, rv buf, iv 3] []) (fun _ kt => st _ (zS X hx hby d3_33 rfl rfl (l' := #[iv 2, iv xc, iv xd, rv buf, iv 3]) rfl (zJ X hx hby d3_35 rfl rfl (zF X hx hby d3_37 rfl rfl ((if0 _ _).trans (feq (by decide)).2) (pc' := 51) rfl (zJ X hx hby d3_51 rfl rfl (zK X hx hby d3_53 rfl (zY X hx hby d3_54 rfl rfl (feq (by decide)).2 (pc' := 74) rfl kt))))))) ?_
      refine oWk.to (mkF m 109 #[iv 2, iv xc, iv xd, rv buf, iv 3] []) (fun _ kt => zJ X hx hby d3_74 rfl rfl (zK X hx hby d3_76 rfl (zY X hx hby d3_77 rfl rfl (feq (by decide)).2 (pc' := 103) rfl (zJ X hx hby d3_103 rfl rfl (zK X hx hby d3_105 rfl (zN X hx hby d3_106 rfl rfl (teq (by decide)).2 kt)))))) ?_
      rcases oLU3 xc (oHi xd) (oLo xd) with ⟨hl0, hl1, hl2⟩ | hU
      · exact absurd (oHg cp2 hB2) hl1
      · show oWk _ _ _ _ T (mkF m 109 #[iv 2, iv xc, iv xd, rv buf, iv 3] [])
        obtain ⟨o24, g24⟩ : ∃ z, z = h.size := ⟨_, rfl⟩
        have ne_buf_o24 : buf ≠ o24 := Nat.ne_of_lt (Nat.lt_of_lt_of_le V_buf.lt (Nat.le_of_eq g24.symm))
        have ge_o24 : h0.size ≤ o24 := Nat.le_trans K.le (Nat.le_of_eq g24.symm)
        obtain ⟨T, h, X, e0, E24, A24, D24, -, st⟩ := newO X hx hZ hown (oW hw 14 rfl) (oW hw 15 rfl) (oW hw 16 rfl) e0 (g := (mkF m 109 #[iv 2, iv xc, iv xd, rv buf, iv 3] [])) rfl (hb hby d3_109) (by decide) (by decide)
        rw [← g24] at A24 D24 st
        have K := K.ext E24
        have E_o24 := A24
        have F_value_o24 : Fld Z h o24 Y0 "value" "[B" .null := D24 (Or.inr (oW hw 29 rfl)) (ty := (.array .byte)) (by decide)
        have F_coder_o24 : Fld Z h o24 Y0 "coder" "B" (.int (0 : Int32)) := D24 (Or.inr (oW hw 30 rfl)) (ty := .byte) (by decide)
        refine oWk.st (fun _ kt => st _ (zD X hx hby d3_112 rfl rfl rfl (zK X hx hby d3_113 rfl kt))) ?_
        obtain ⟨o25, g25⟩ : ∃ z, z = h.size := ⟨_, rfl⟩
        have V_buf := (V_buf.ext E24)
        have ne_buf_o25 : buf ≠ o25 := Nat.ne_of_lt (Nat.lt_of_lt_of_le V_buf.lt (Nat.le_of_eq g25.symm))
        have ne_o24_o25 : o24 ≠ o25 := Nat.ne_of_lt (Nat.lt_of_lt_of_le E_o24.lt (Nat.le_of_eq g25.symm))
        have ge_o25 : h0.size ≤ o25 := Nat.le_trans K.le (Nat.le_of_eq g25.symm)
        obtain ⟨T, h, k25, X, e0, E25, A25, st⟩ := newP X hx hZ (oW hw 13 rfl) e0 (g := (mkF m 114 #[iv 2, iv xc, iv xd, rv buf, iv 3] [(.int 3), (.ref o24), (.ref o24)])) rfl (hb hby d3_114) rfl (by decide) (cap := 3) (by decide) (by decide) (by decide) (by decide)
        rw [← g25] at A25 st
        have K := K.ext E25
        have V_o25 : Arv Z h o25 k25 .char (3 : Int32) [(.int (0 : Int32)), (.int (0 : Int32)), (.int (0 : Int32))] (.int (0 : Int32)) := (Arv.new A25 (by decide)).pad (pad_rep [] (.int (0 : Int32)) 3)
        refine oWk.st (fun _ kt => st _ (zD X hx hby d3_116 rfl rfl rfl (zK X hx hby d3_117 rfl (zA X hx hby d3_118 rfl rfl rfl (zK X hx hby d3_119 rfl kt))))) ?_
        have V_buf := (V_buf.ext E25)
        refine oWk.to (mkF m 121 #[iv 2, iv xc, iv xd, rv buf, iv 3] [(.int xc), (.int 0), (.ref o25), (.ref o25), (.ref o24), (.ref o24)]) (fun _ kt => oLdC X hx hZ e0 V_buf (0 : Int32) (.int xc) ⟨by decide, by decide⟩ rfl hby d3_120 rfl rfl kt) ?_
        obtain ⟨cl27, Ar27, q27, Sz27, Nn27, Hs27, Ft27⟩ := id V_o25
        have hin27 : ¬ ((0 : Int32) < 0 ∨ cl27.slots.size ≤ ((0 : Int32)).toNatClampNeg) := inb_of Sz27 ⟨by decide, by decide⟩
        obtain ⟨T, h, X, e0, W27, st⟩ := stC X hx hZ e0 Ar27 (j := (0 : Int32)) hin27 (g := (mkF m 121 #[iv 2, iv xc, iv xd, rv buf, iv 3] [(.int xc), (.int 0), (.ref o25), (.ref o25), (.ref o24), (.ref o24)])) rfl rfl (hb hby d3_121)
        have K := K.wr W27 (Or.inr ge_o25)
        have V_o25 := Arv.set Ar27 q27 Sz27 Nn27 Hs27 Ft27 (fits_nar_char _) W27 0 rfl (Nat.le_of_ble_eq_true rfl)
        rw [show nar .char xc = xc from oChrU (oB16 cp1 hB1)] at V_o25
        replace V_o25 : Arv Z h o25 k25 .char (3 : Int32) [(.int xc), (.int (0 : Int32)), (.int (0 : Int32))] (.int (0 : Int32)) := V_o25
        refine oWk.st (fun _ kt => st _ (zD X hx hby d3_122 rfl rfl rfl (zK X hx hby d3_123 rfl (zA X hx hby d3_124 rfl rfl rfl (zK X hx hby d3_125 rfl kt))))) ?_
        have V_buf := (V_buf.other W27 ne_buf_o25)
        refine oWk.to (mkF m 127 #[iv 2, iv xc, iv xd, rv buf, iv 3] [(.int (oHi xd)), (.int 1), (.ref o25), (.ref o25), (.ref o24), (.ref o24)]) (fun _ kt => oLdC X hx hZ e0 V_buf (1 : Int32) (.int (oHi xd)) ⟨by decide, by decide⟩ rfl hby d3_126 rfl rfl kt) ?_
        obtain ⟨cl29, Ar29, q29, Sz29, Nn29, Hs29, Ft29⟩ := id V_o25
        have hin29 : ¬ ((1 : Int32) < 0 ∨ cl29.slots.size ≤ ((1 : Int32)).toNatClampNeg) := inb_of Sz29 ⟨by decide, by decide⟩
        obtain ⟨T, h, X, e0, W29, st⟩ := stC X hx hZ e0 Ar29 (j := (1 : Int32)) hin29 (g := (mkF m 127 #[iv 2, iv xc, iv xd, rv buf, iv 3] [(.int (oHi xd)), (.int 1), (.ref o25), (.ref o25), (.ref o24), (.ref o24)])) rfl rfl (hb hby d3_127)
        have K := K.wr W29 (Or.inr ge_o25)
        have V_o25 := Arv.set Ar29 q29 Sz29 Nn29 Hs29 Ft29 (fits_nar_char _) W29 1 rfl (Nat.le_of_ble_eq_true rfl)
        rw [show nar .char (oHi xd) = (oHi xd) from oChrU (oH16 cp2 hB2)] at V_o25
        replace V_o25 : Arv Z h o25 k25 .char (3 : Int32) [(.int xc), (.int (oHi xd)), (.int (0 : Int32))] (.int (0 : Int32)) := V_o25
        refine oWk.st (fun _ kt => st _ (zD X hx hby d3_128 rfl rfl rfl (zK X hx hby d3_129 rfl (zA X hx hby d3_130 rfl rfl rfl (zK X hx hby d3_131 rfl kt))))) ?_
        have V_buf := (V_buf.other W29 ne_buf_o25)
        refine oWk.to (mkF m 133 #[iv 2, iv xc, iv xd, rv buf, iv 3] [(.int (oLo xd)), (.int 2), (.ref o25), (.ref o25), (.ref o24), (.ref o24)]) (fun _ kt => oLdC X hx hZ e0 V_buf (2 : Int32) (.int (oLo xd)) ⟨by decide, by decide⟩ rfl hby d3_132 rfl rfl kt) ?_
        obtain ⟨cl31, Ar31, q31, Sz31, Nn31, Hs31, Ft31⟩ := id V_o25
        have hin31 : ¬ ((2 : Int32) < 0 ∨ cl31.slots.size ≤ ((2 : Int32)).toNatClampNeg) := inb_of Sz31 ⟨by decide, by decide⟩
        obtain ⟨T, h, X, e0, W31, st⟩ := stC X hx hZ e0 Ar31 (j := (2 : Int32)) hin31 (g := (mkF m 133 #[iv 2, iv xc, iv xd, rv buf, iv 3] [(.int (oLo xd)), (.int 2), (.ref o25), (.ref o25), (.ref o24), (.ref o24)])) rfl rfl (hb hby d3_133)
        have K := K.wr W31 (Or.inr ge_o25)
        have V_o25 := Arv.set Ar31 q31 Sz31 Nn31 Hs31 Ft31 (fits_nar_char _) W31 2 rfl (Nat.le_of_ble_eq_true rfl)
        rw [show nar .char (oLo xd) = (oLo xd) from oChrU (oL16 cp2 hB2)] at V_o25
        replace V_o25 : Arv Z h o25 k25 .char (3 : Int32) [(.int xc), (.int (oHi xd)), (.int (oLo xd))] (.int (0 : Int32)) := V_o25
        refine oWk.st (fun _ kt => st _ kt) ?_
        have E_o24 := ((((E_o24.ext E25).wr W27).wr W29).wr W31)
        have F_value_o24 := ((((F_value_o24.ext E25).other W27 (Or.inl ne_o24_o25)).other W29 (Or.inl ne_o24_o25)).other W31 (Or.inl ne_o24_o25))
        have F_coder_o24 := ((((F_coder_o24.ext E25).other W27 (Or.inl ne_o24_o25)).other W29 (Or.inl ne_o24_o25)).other W31 (Or.inl ne_o24_o25))
        have V_buf := (V_buf.other W31 ne_buf_o25)
        have lt_buf := V_buf.lt
        have lt_o24 := E_o24.lt
        have lt_o25 := V_o25.lt
        have Oh := K.old O0 all0
        obtain ⟨_, T, h, Lc33, X, e0, hQ, st⟩ := (cs25 hw).run X hx hZ hown e0 (A := [(.ref o24), (.ref o25)]) ⟨rfl, _, _, rfl⟩ (rI1U_3 l Z a0 hw [] o24 o25 k25 xz .null (.int (0 : Int32)) xc (oHi xd) (oLo xd) h Oh S_Z hz S_A S_H S_L (Nat.le_trans O0.1 ge_o24) E_o24 F_value_o24 F_coder_o24 V_o25 (oB16 cp1 hB1) (oH16 cp2 hB2) (oL16 cp2 hB2) hU) (W := 1) (by decide) hml (Ls := #[iv 2, iv xc, iv xd, rv buf, iv 3]) rfl (rest := [(.ref o24)]) rfl rfl hby d3_134
        obtain ⟨nb32, nk32, rfl, K32, E_o24, F_coder_o24, F_value_o24, gn_nb32, V_nb32⟩ := hQ
        have ge_nb32 := Nat.le_trans K.le gn_nb32
        have ne_buf_nb32 : buf ≠ nb32 := Nat.ne_of_lt (Nat.lt_of_lt_of_le lt_buf gn_nb32)
        have ne_o24_nb32 : o24 ≠ nb32 := Nat.ne_of_lt (Nat.lt_of_lt_of_le lt_o24 gn_nb32)
        have ne_o25_nb32 : o25 ≠ nb32 := Nat.ne_of_lt (Nat.lt_of_lt_of_le lt_o25 gn_nb32)
        have K := K.call K32 (allS (Or.inr ge_o24) all0)
        refine oWk.to (mkF m 137 #[iv 2, iv xc, iv xd, rv buf, iv 3] [(.ref o24)]) (fun _ kt => st _ kt) ?_
        exact oRetA X hx hlk hret rfl rfl (hb hby d3_137) (by rw [e0]; exact ⟨o24, rfl, K, ge_o24, (by show oTx Z _ _ (oEnc xc ++ (oEnc xd ++ [])); rw [oEnc_b hB1, oEnc_s hB2]; exact ⟨_, _, E_o24, F_value_o24, Or.inr ⟨F_coder_o24, V_nb32, (oAS (oB16 cp1 hB1) (oAS (oH16 cp2 hB2) (oAS (oL16 cp2 hB2) oA0)))⟩⟩)⟩) (by decide) (by decide)
  · show oWk _ _ _ _ T (mkF m 12 #[iv 2, iv xc, iv xd, rv buf, iv 0] [])
    refine oWk.st (fun _ kt => zA X hx hby d3_12 rfl rfl rfl (zJ X hx hby d3_13 rfl rfl (zI X hx hby d3_15 rfl rfl kt))) ?_
    have Oh := K.old O0 all0
    obtain ⟨_, T, h, Lc35, X, e0, hQ, st⟩ := (cs24 hw).run X hx hZ hown e0 (A := [(.ref buf), (.int (0 : Int32)), (.int xc)]) rfl (rPcS_0 l Z a0 hw [] buf k1 xc (0 : Int32) (0 : Int32) (0 : Int32) (0 : Int32) h Oh (Nat.le_trans O0.1 ge_buf) V_buf cp1 hB1) (W := 0) (by decide) hml (Ls := #[iv 2, iv xc, iv xd, rv buf, iv 0]) rfl (rest := []) rfl rfl hby d3_16
    obtain ⟨rfl, K34, V_buf⟩ := hQ
    have K := K.call K34 (allS (Or.inr ge_buf) all0)
    refine oWk.to (mkF m 26 #[iv 2, iv xc, iv xd, rv buf, iv 2] []) (fun _ kt => st _ (zS X hx hby d3_19 rfl rfl (l' := #[iv 2, iv xc, iv xd, rv buf, iv 2]) rfl (zI X hx hby d3_21 rfl rfl (zK X hx hby d3_22 rfl (zN X hx hby d3_23 rfl rfl (flt (by decide)).1 kt))))) ?_
    by_cases hB2 : xd < (65536 : Int32)
    · show oWk _ _ _ _ T (mkF m 26 #[iv 2, iv xc, iv xd, rv buf, iv 2] [])
      refine oWk.st (fun _ kt => zA X hx hby d3_26 rfl rfl rfl (zJ X hx hby d3_27 rfl rfl (zI X hx hby d3_29 rfl rfl kt))) ?_
      have Oh := K.old O0 all0
      obtain ⟨_, T, h, Lc37, X, e0, hQ, st⟩ := (cs24 hw).run X hx hZ hown e0 (A := [(.ref buf), (.int (2 : Int32)), (.int xd)]) rfl (rPcB_2 l Z a0 hw [] buf k1 xd (oHi xc) (oLo xc) (0 : Int32) (0 : Int32) h Oh (Nat.le_trans O0.1 ge_buf) V_buf cp2 hB2) (W := 0) (by decide) hml (Ls := #[iv 2, iv xc, iv xd, rv buf, iv 2]) rfl (rest := []) rfl rfl hby d3_30
      obtain ⟨rfl, K36, V_buf⟩ := hQ
      have K := K.call K36 (allS (Or.inr ge_buf) all0)
      refine oWk.to (mkF m 74 #[iv 2, iv xc, iv xd, rv buf, iv 3] []) (fun _ kt => st _ (zS X hx hby d3_33 rfl rfl (l' := #[iv 2, iv xc, iv xd, rv buf, iv 3]) rfl (zJ X hx hby d3_35 rfl rfl (zF X hx hby d3_37 rfl rfl ((if0 _ _).trans (feq (by decide)).2) (pc' := 51) rfl (zJ X hx hby d3_51 rfl rfl (zK X hx hby d3_53 rfl (zY X hx hby d3_54 rfl rfl (feq (by decide)).2 (pc' := 74) rfl kt))))))) ?_
      refine oWk.to (mkF m 109 #[iv 2, iv xc, iv xd, rv buf, iv 3] []) (fun _ kt => zJ X hx hby d3_74 rfl rfl (zK X hx hby d3_76 rfl (zY X hx hby d3_77 rfl rfl (feq (by decide)).2 (pc' := 103) rfl (zJ X hx hby d3_103 rfl rfl (zK X hx hby d3_105 rfl (zN X hx hby d3_106 rfl rfl (teq (by decide)).2 kt)))))) ?_
      rcases oLU3 (oHi xc) (oLo xc) xd with ⟨hl0, hl1, hl2⟩ | hU
      · exact absurd (oHg cp1 hB1) hl0
      · show oWk _ _ _ _ T (mkF m 109 #[iv 2, iv xc, iv xd, rv buf, iv 3] [])
        obtain ⟨o38, g38⟩ : ∃ z, z = h.size := ⟨_, rfl⟩
        have ne_buf_o38 : buf ≠ o38 := Nat.ne_of_lt (Nat.lt_of_lt_of_le V_buf.lt (Nat.le_of_eq g38.symm))
        have ge_o38 : h0.size ≤ o38 := Nat.le_trans K.le (Nat.le_of_eq g38.symm)
        obtain ⟨T, h, X, e0, E38, A38, D38, -, st⟩ := newO X hx hZ hown (oW hw 14 rfl) (oW hw 15 rfl) (oW hw 16 rfl) e0 (g := (mkF m 109 #[iv 2, iv xc, iv xd, rv buf, iv 3] [])) rfl (hb hby d3_109) (by decide) (by decide)
        rw [← g38] at A38 D38 st
        have K := K.ext E38
        have E_o38 := A38
        have F_value_o38 : Fld Z h o38 Y0 "value" "[B" .null := D38 (Or.inr (oW hw 29 rfl)) (ty := (.array .byte)) (by decide)
        have F_coder_o38 : Fld Z h o38 Y0 "coder" "B" (.int (0 : Int32)) := D38 (Or.inr (oW hw 30 rfl)) (ty := .byte) (by decide)
        refine oWk.st (fun _ kt => st _ (zD X hx hby d3_112 rfl rfl rfl (zK X hx hby d3_113 rfl kt))) ?_
        obtain ⟨o39, g39⟩ : ∃ z, z = h.size := ⟨_, rfl⟩
        have V_buf := (V_buf.ext E38)
        have ne_buf_o39 : buf ≠ o39 := Nat.ne_of_lt (Nat.lt_of_lt_of_le V_buf.lt (Nat.le_of_eq g39.symm))
        have ne_o38_o39 : o38 ≠ o39 := Nat.ne_of_lt (Nat.lt_of_lt_of_le E_o38.lt (Nat.le_of_eq g39.symm))
        have ge_o39 : h0.size ≤ o39 := Nat.le_trans K.le (Nat.le_of_eq g39.symm)
        obtain ⟨T, h, k39, X, e0, E39, A39, st⟩ := newP X hx hZ (oW hw 13 rfl) e0 (g := (mkF m 114 #[iv 2, iv xc, iv xd, rv buf, iv 3] [(.int 3), (.ref o38), (.ref o38)])) rfl (hb hby d3_114) rfl (by decide) (cap := 3) (by decide) (by decide) (by decide) (by decide)
        rw [← g39] at A39 st
        have K := K.ext E39
        have V_o39 : Arv Z h o39 k39 .char (3 : Int32) [(.int (0 : Int32)), (.int (0 : Int32)), (.int (0 : Int32))] (.int (0 : Int32)) := (Arv.new A39 (by decide)).pad (pad_rep [] (.int (0 : Int32)) 3)
        refine oWk.st (fun _ kt => st _ (zD X hx hby d3_116 rfl rfl rfl (zK X hx hby d3_117 rfl (zA X hx hby d3_118 rfl rfl rfl (zK X hx hby d3_119 rfl kt))))) ?_
        have V_buf := (V_buf.ext E39)
        refine oWk.to (mkF m 121 #[iv 2, iv xc, iv xd, rv buf, iv 3] [(.int (oHi xc)), (.int 0), (.ref o39), (.ref o39), (.ref o38), (.ref o38)]) (fun _ kt => oLdC X hx hZ e0 V_buf (0 : Int32) (.int (oHi xc)) ⟨by decide, by decide⟩ rfl hby d3_120 rfl rfl kt) ?_
        obtain ⟨cl41, Ar41, q41, Sz41, Nn41, Hs41, Ft41⟩ := id V_o39
        have hin41 : ¬ ((0 : Int32) < 0 ∨ cl41.slots.size ≤ ((0 : Int32)).toNatClampNeg) := inb_of Sz41 ⟨by decide, by decide⟩
        obtain ⟨T, h, X, e0, W41, st⟩ := stC X hx hZ e0 Ar41 (j := (0 : Int32)) hin41 (g := (mkF m 121 #[iv 2, iv xc, iv xd, rv buf, iv 3] [(.int (oHi xc)), (.int 0), (.ref o39), (.ref o39), (.ref o38), (.ref o38)])) rfl rfl (hb hby d3_121)
        have K := K.wr W41 (Or.inr ge_o39)
        have V_o39 := Arv.set Ar41 q41 Sz41 Nn41 Hs41 Ft41 (fits_nar_char _) W41 0 rfl (Nat.le_of_ble_eq_true rfl)
        rw [show nar .char (oHi xc) = (oHi xc) from oChrU (oH16 cp1 hB1)] at V_o39
        replace V_o39 : Arv Z h o39 k39 .char (3 : Int32) [(.int (oHi xc)), (.int (0 : Int32)), (.int (0 : Int32))] (.int (0 : Int32)) := V_o39
        refine oWk.st (fun _ kt => st _ (zD X hx hby d3_122 rfl rfl rfl (zK X hx hby d3_123 rfl (zA X hx hby d3_124 rfl rfl rfl (zK X hx hby d3_125 rfl kt))))) ?_
        have V_buf := (V_buf.other W41 ne_buf_o39)
        refine oWk.to (mkF m 127 #[iv 2, iv xc, iv xd, rv buf, iv 3] [(.int (oLo xc)), (.int 1), (.ref o39), (.ref o39), (.ref o38), (.ref o38)]) (fun _ kt => oLdC X hx hZ e0 V_buf (1 : Int32) (.int (oLo xc)) ⟨by decide, by decide⟩ rfl hby d3_126 rfl rfl kt) ?_
        obtain ⟨cl43, Ar43, q43, Sz43, Nn43, Hs43, Ft43⟩ := id V_o39
        have hin43 : ¬ ((1 : Int32) < 0 ∨ cl43.slots.size ≤ ((1 : Int32)).toNatClampNeg) := inb_of Sz43 ⟨by decide, by decide⟩
        obtain ⟨T, h, X, e0, W43, st⟩ := stC X hx hZ e0 Ar43 (j := (1 : Int32)) hin43 (g := (mkF m 127 #[iv 2, iv xc, iv xd, rv buf, iv 3] [(.int (oLo xc)), (.int 1), (.ref o39), (.ref o39), (.ref o38), (.ref o38)])) rfl rfl (hb hby d3_127)
        have K := K.wr W43 (Or.inr ge_o39)
        have V_o39 := Arv.set Ar43 q43 Sz43 Nn43 Hs43 Ft43 (fits_nar_char _) W43 1 rfl (Nat.le_of_ble_eq_true rfl)
        rw [show nar .char (oLo xc) = (oLo xc) from oChrU (oL16 cp1 hB1)] at V_o39
        replace V_o39 : Arv Z h o39 k39 .char (3 : Int32) [(.int (oHi xc)), (.int (oLo xc)), (.int (0 : Int32))] (.int (0 : Int32)) := V_o39
        refine oWk.st (fun _ kt => st _ (zD X hx hby d3_128 rfl rfl rfl (zK X hx hby d3_129 rfl (zA X hx hby d3_130 rfl rfl rfl (zK X hx hby d3_131 rfl kt))))) ?_
        have V_buf := (V_buf.other W43 ne_buf_o39)
        refine oWk.to (mkF m 133 #[iv 2, iv xc, iv xd, rv buf, iv 3] [(.int xd), (.int 2), (.ref o39), (.ref o39), (.ref o38), (.ref o38)]) (fun _ kt => oLdC X hx hZ e0 V_buf (2 : Int32) (.int xd) ⟨by decide, by decide⟩ rfl hby d3_132 rfl rfl kt) ?_
        obtain ⟨cl45, Ar45, q45, Sz45, Nn45, Hs45, Ft45⟩ := id V_o39
        have hin45 : ¬ ((2 : Int32) < 0 ∨ cl45.slots.size ≤ ((2 : Int32)).toNatClampNeg) := inb_of Sz45 ⟨by decide, by decide⟩
        obtain ⟨T, h, X, e0, W45, st⟩ := stC X hx hZ e0 Ar45 (j := (2 : Int32)) hin45 (g := (mkF m 133 #[iv 2, iv xc, iv xd, rv buf, iv 3] [(.int xd), (.int 2), (.ref o39), (.ref o39), (.ref o38), (.ref o38)])) rfl rfl (hb hby d3_133)
        have K := K.wr W45 (Or.inr ge_o39)
        have V_o39 := Arv.set Ar45 q45 Sz45 Nn45 Hs45 Ft45 (fits_nar_char _) W45 2 rfl (Nat.le_of_ble_eq_true rfl)
        rw [show nar .char xd = xd from oChrU (oB16 cp2 hB2)] at V_o39
        replace V_o39 : Arv Z h o39 k39 .char (3 : Int32) [(.int (oHi xc)), (.int (oLo xc)), (.int xd)] (.int (0 : Int32)) := V_o39
        refine oWk.st (fun _ kt => st _ kt) ?_
        have E_o38 := ((((E_o38.ext E39).wr W41).wr W43).wr W45)
        have F_value_o38 := ((((F_value_o38.ext E39).other W41 (Or.inl ne_o38_o39)).other W43 (Or.inl ne_o38_o39)).other W45 (Or.inl ne_o38_o39))
        have F_coder_o38 := ((((F_coder_o38.ext E39).other W41 (Or.inl ne_o38_o39)).other W43 (Or.inl ne_o38_o39)).other W45 (Or.inl ne_o38_o39))
        have V_buf := (V_buf.other W45 ne_buf_o39)
        have lt_buf := V_buf.lt
        have lt_o38 := E_o38.lt
        have lt_o39 := V_o39.lt
        have Oh := K.old O0 all0
        obtain ⟨_, T, h, Lc47, X, e0, hQ, st⟩ := (cs25 hw).run X hx hZ hown e0 (A := [(.ref o38), (.ref o39)]) ⟨rfl, _, _, rfl⟩ (rI1U_3 l Z a0 hw [] o38 o39 k39 xz .null (.int (0 : Int32)) (oHi xc) (oLo xc) xd h Oh S_Z hz S_A S_H S_L (Nat.le_trans O0.1 ge_o38) E_o38 F_value_o38 F_coder_o38 V_o39 (oH16 cp1 hB1) (oL16 cp1 hB1) (oB16 cp2 hB2) hU) (W := 1) (by decide) hml (Ls := #[iv 2, iv xc, iv xd, rv buf, iv 3]) rfl (rest := [(.ref o38)]) rfl rfl hby d3_134
        obtain ⟨nb46, nk46, rfl, K46, E_o38, F_coder_o38, F_value_o38, gn_nb46, V_nb46⟩ := hQ
        have ge_nb46 := Nat.le_trans K.le gn_nb46
        have ne_buf_nb46 : buf ≠ nb46 := Nat.ne_of_lt (Nat.lt_of_lt_of_le lt_buf gn_nb46)
        have ne_o38_nb46 : o38 ≠ nb46 := Nat.ne_of_lt (Nat.lt_of_lt_of_le lt_o38 gn_nb46)
        have ne_o39_nb46 : o39 ≠ nb46 := Nat.ne_of_lt (Nat.lt_of_lt_of_le lt_o39 gn_nb46)
        have K := K.call K46 (allS (Or.inr ge_o38) all0)
        refine oWk.to (mkF m 137 #[iv 2, iv xc, iv xd, rv buf, iv 3] [(.ref o38)]) (fun _ kt => st _ kt) ?_
        exact oRetA X hx hlk hret rfl rfl (hb hby d3_137) (by rw [e0]; exact ⟨o38, rfl, K, ge_o38, (by show oTx Z _ _ (oEnc xc ++ (oEnc xd ++ [])); rw [oEnc_s hB1, oEnc_b hB2]; exact ⟨_, _, E_o38, F_value_o38, Or.inr ⟨F_coder_o38, V_nb46, (oAS (oH16 cp1 hB1) (oAS (oL16 cp1 hB1) (oAS (oB16 cp2 hB2) oA0)))⟩⟩)⟩) (by decide) (by decide)
    · show oWk _ _ _ _ T (mkF m 26 #[iv 2, iv xc, iv xd, rv buf, iv 2] [])
      refine oWk.st (fun _ kt => zA X hx hby d3_26 rfl rfl rfl (zJ X hx hby d3_27 rfl rfl (zI X hx hby d3_29 rfl rfl kt))) ?_
      have Oh := K.old O0 all0
      obtain ⟨_, T, h, Lc49, X, e0, hQ, st⟩ := (cs24 hw).run X hx hZ hown e0 (A := [(.ref buf), (.int (2 : Int32)), (.int xd)]) rfl (rPcS_2 l Z a0 hw [] buf k1 xd (oHi xc) (oLo xc) (0 : Int32) (0 : Int32) h Oh (Nat.le_trans O0.1 ge_buf) V_buf cp2 hB2) (W := 0) (by decide) hml (Ls := #[iv 2, iv xc, iv xd, rv buf, iv 2]) rfl (rest := []) rfl rfl hby d3_30
      obtain ⟨rfl, K48, V_buf⟩ := hQ
      have K := K.call K48 (allS (Or.inr ge_buf) all0)
      refine oWk.to (mkF m 74 #[iv 2, iv xc, iv xd, rv buf, iv 4] []) (fun _ kt => st _ (zS X hx hby d3_33 rfl rfl (l' := #[iv 2, iv xc, iv xd, rv buf, iv 4]) rfl (zJ X hx hby d3_35 rfl rfl (zF X hx hby d3_37 rfl rfl ((if0 _ _).trans (feq (by decide)).2) (pc' := 51) rfl (zJ X hx hby d3_51 rfl rfl (zK X hx hby d3_53 rfl (zY X hx hby d3_54 rfl rfl (feq (by decide)).2 (pc' := 74) rfl kt))))))) ?_
      refine oWk.to (mkF m 138 #[iv 2, iv xc, iv xd, rv buf, iv 4] []) (fun _ kt => zJ X hx hby d3_74 rfl rfl (zK X hx hby d3_76 rfl (zY X hx hby d3_77 rfl rfl (feq (by decide)).2 (pc' := 103) rfl (zJ X hx hby d3_103 rfl rfl (zK X hx hby d3_105 rfl (zY X hx hby d3_106 rfl rfl (feq (by decide)).2 (pc' := 138) rfl kt)))))) ?_
      rcases oLU4 (oHi xc) (oLo xc) (oHi xd) (oLo xd) with ⟨hl0, hl1, hl2, hl3⟩ | hU
      · exact absurd (oHg cp1 hB1) hl0
      · show oWk _ _ _ _ T (mkF m 138 #[iv 2, iv xc, iv xd, rv buf, iv 4] [])
        obtain ⟨o50, g50⟩ : ∃ z, z = h.size := ⟨_, rfl⟩
        have ne_buf_o50 : buf ≠ o50 := Nat.ne_of_lt (Nat.lt_of_lt_of_le V_buf.lt (Nat.le_of_eq g50.symm))
        have ge_o50 : h0.size ≤ o50 := Nat.le_trans K.le (Nat.le_of_eq g50.symm)
        obtain ⟨T, h, X, e0, E50, A50, D50, -, st⟩ := newO X hx hZ hown (oW hw 14 rfl) (oW hw 15 rfl) (oW hw 16 rfl) e0 (g := (mkF m 138 #[iv 2, iv xc, iv xd, rv buf, iv 4] [])) rfl (hb hby d3_138) (by decide) (by decide)
        rw [← g50] at A50 D50 st
        have K := K.ext E50
        have E_o50 := A50
        have F_value_o50 : Fld Z h o50 Y0 "value" "[B" .null := D50 (Or.inr (oW hw 29 rfl)) (ty := (.array .byte)) (by decide)
        have F_coder_o50 : Fld Z h o50 Y0 "coder" "B" (.int (0 : Int32)) := D50 (Or.inr (oW hw 30 rfl)) (ty := .byte) (by decide)
        refine oWk.st (fun _ kt => st _ (zD X hx hby d3_141 rfl rfl rfl (zK X hx hby d3_142 rfl kt))) ?_
        obtain ⟨o51, g51⟩ : ∃ z, z = h.size := ⟨_, rfl⟩
        have V_buf := (V_buf.ext E50)
        have ne_buf_o51 : buf ≠ o51 := Nat.ne_of_lt (Nat.lt_of_lt_of_le V_buf.lt (Nat.le_of_eq g51.symm))
        have ne_o50_o51 : o50 ≠ o51 := Nat.ne_of_lt (Nat.lt_of_lt_of_le E_o50.lt (Nat.le_of_eq g51.symm))
        have ge_o51 : h0.size ≤ o51 := Nat.le_trans K.le (Nat.le_of_eq g51.symm)
        obtain ⟨T, h, k51, X, e0, E51, A51, st⟩ := newP X hx hZ (oW hw 13 rfl) e0 (g := (mkF m 143 #[iv 2, iv xc, iv xd, rv buf, iv 4] [(.int 4), (.ref o50), (.ref o50)])) rfl (hb hby d3_143) rfl (by decide) (cap := 4) (by decide) (by decide) (by decide) (by decide)
        rw [← g51] at A51 st
        have K := K.ext E51
        have V_o51 : Arv Z h o51 k51 .char (4 : Int32) [(.int (0 : Int32)), (.int (0 : Int32)), (.int (0 : Int32)), (.int (0 : Int32))] (.int (0 : Int32)) := (Arv.new A51 (by decide)).pad (pad_rep [] (.int (0 : Int32)) 4)
        refine oWk.st (fun _ kt => st _ (zD X hx hby d3_145 rfl rfl rfl (zK X hx hby d3_146 rfl (zA X hx hby d3_147 rfl rfl rfl (zK X hx hby d3_148 rfl kt))))) ?_
        have V_buf := (V_buf.ext E51)
        refine oWk.to (mkF m 150 #[iv 2, iv xc, iv xd, rv buf, iv 4] [(.int (oHi xc)), (.int 0), (.ref o51), (.ref o51), (.ref o50), (.ref o50)]) (fun _ kt => oLdC X hx hZ e0 V_buf (0 : Int32) (.int (oHi xc)) ⟨by decide, by decide⟩ rfl hby d3_149 rfl rfl kt) ?_
        obtain ⟨cl53, Ar53, q53, Sz53, Nn53, Hs53, Ft53⟩ := id V_o51
        have hin53 : ¬ ((0 : Int32) < 0 ∨ cl53.slots.size ≤ ((0 : Int32)).toNatClampNeg) := inb_of Sz53 ⟨by decide, by decide⟩
        obtain ⟨T, h, X, e0, W53, st⟩ := stC X hx hZ e0 Ar53 (j := (0 : Int32)) hin53 (g := (mkF m 150 #[iv 2, iv xc, iv xd, rv buf, iv 4] [(.int (oHi xc)), (.int 0), (.ref o51), (.ref o51), (.ref o50), (.ref o50)])) rfl rfl (hb hby d3_150)
        have K := K.wr W53 (Or.inr ge_o51)
        have V_o51 := Arv.set Ar53 q53 Sz53 Nn53 Hs53 Ft53 (fits_nar_char _) W53 0 rfl (Nat.le_of_ble_eq_true rfl)
        rw [show nar .char (oHi xc) = (oHi xc) from oChrU (oH16 cp1 hB1)] at V_o51
        replace V_o51 : Arv Z h o51 k51 .char (4 : Int32) [(.int (oHi xc)), (.int (0 : Int32)), (.int (0 : Int32)), (.int (0 : Int32))] (.int (0 : Int32)) := V_o51
        refine oWk.st (fun _ kt => st _ (zD X hx hby d3_151 rfl rfl rfl (zK X hx hby d3_152 rfl (zA X hx hby d3_153 rfl rfl rfl (zK X hx hby d3_154 rfl kt))))) ?_
        have V_buf := (V_buf.other W53 ne_buf_o51)
        refine oWk.to (mkF m 156 #[iv 2, iv xc, iv xd, rv buf, iv 4] [(.int (oLo xc)), (.int 1), (.ref o51), (.ref o51), (.ref o50), (.ref o50)]) (fun _ kt => oLdC X hx hZ e0 V_buf (1 : Int32) (.int (oLo xc)) ⟨by decide, by decide⟩ rfl hby d3_155 rfl rfl kt) ?_
        obtain ⟨cl55, Ar55, q55, Sz55, Nn55, Hs55, Ft55⟩ := id V_o51
        have hin55 : ¬ ((1 : Int32) < 0 ∨ cl55.slots.size ≤ ((1 : Int32)).toNatClampNeg) := inb_of Sz55 ⟨by decide, by decide⟩
        obtain ⟨T, h, X, e0, W55, st⟩ := stC X hx hZ e0 Ar55 (j := (1 : Int32)) hin55 (g := (mkF m 156 #[iv 2, iv xc, iv xd, rv buf, iv 4] [(.int (oLo xc)), (.int 1), (.ref o51), (.ref o51), (.ref o50), (.ref o50)])) rfl rfl (hb hby d3_156)
        have K := K.wr W55 (Or.inr ge_o51)
        have V_o51 := Arv.set Ar55 q55 Sz55 Nn55 Hs55 Ft55 (fits_nar_char _) W55 1 rfl (Nat.le_of_ble_eq_true rfl)
        rw [show nar .char (oLo xc) = (oLo xc) from oChrU (oL16 cp1 hB1)] at V_o51
        replace V_o51 : Arv Z h o51 k51 .char (4 : Int32) [(.int (oHi xc)), (.int (oLo xc)), (.int (0 : Int32)), (.int (0 : Int32))] (.int (0 : Int32)) := V_o51
        refine oWk.st (fun _ kt => st _ (zD X hx hby d3_157 rfl rfl rfl (zK X hx hby d3_158 rfl (zA X hx hby d3_159 rfl rfl rfl (zK X hx hby d3_160 rfl kt))))) ?_
        have V_buf := (V_buf.other W55 ne_buf_o51)
        refine oWk.to (mkF m 162 #[iv 2, iv xc, iv xd, rv buf, iv 4] [(.int (oHi xd)), (.int 2), (.ref o51), (.ref o51), (.ref o50), (.ref o50)]) (fun _ kt => oLdC X hx hZ e0 V_buf (2 : Int32) (.int (oHi xd)) ⟨by decide, by decide⟩ rfl hby d3_161 rfl rfl kt) ?_
        obtain ⟨cl57, Ar57, q57, Sz57, Nn57, Hs57, Ft57⟩ := id V_o51
        have hin57 : ¬ ((2 : Int32) < 0 ∨ cl57.slots.size ≤ ((2 : Int32)).toNatClampNeg) := inb_of Sz57 ⟨by decide, by decide⟩
        obtain ⟨T, h, X, e0, W57, st⟩ := stC X hx hZ e0 Ar57 (j := (2 : Int32)) hin57 (g := (mkF m 162 #[iv 2, iv xc, iv xd, rv buf, iv 4] [(.int (oHi xd)), (.int 2), (.ref o51), (.ref o51), (.ref o50), (.ref o50)])) rfl rfl (hb hby d3_162)
        have K := K.wr W57 (Or.inr ge_o51)
        have V_o51 := Arv.set Ar57 q57 Sz57 Nn57 Hs57 Ft57 (fits_nar_char _) W57 2 rfl (Nat.le_of_ble_eq_true rfl)
        rw [show nar .char (oHi xd) = (oHi xd) from oChrU (oH16 cp2 hB2)] at V_o51
        replace V_o51 : Arv Z h o51 k51 .char (4 : Int32) [(.int (oHi xc)), (.int (oLo xc)), (.int (oHi xd)), (.int (0 : Int32))] (.int (0 : Int32)) := V_o51
        refine oWk.st (fun _ kt => st _ (zD X hx hby d3_163 rfl rfl rfl (zK X hx hby d3_164 rfl (zA X hx hby d3_165 rfl rfl rfl (zK X hx hby d3_166 rfl kt))))) ?_
        have V_buf := (V_buf.other W57 ne_buf_o51)
        refine oWk.to (mkF m 168 #[iv 2, iv xc, iv xd, rv buf, iv 4] [(.int (oLo xd)), (.int 3), (.ref o51), (.ref o51), (.ref o50), (.ref o50)]) (fun _ kt => oLdC X hx hZ e0 V_buf (3 : Int32) (.int (oLo xd)) ⟨by decide, by decide⟩ rfl hby d3_167 rfl rfl kt) ?_
        obtain ⟨cl59, Ar59, q59, Sz59, Nn59, Hs59, Ft59⟩ := id V_o51
        have hin59 : ¬ ((3 : Int32) < 0 ∨ cl59.slots.size ≤ ((3 : Int32)).toNatClampNeg) := inb_of Sz59 ⟨by decide, by decide⟩
        obtain ⟨T, h, X, e0, W59, st⟩ := stC X hx hZ e0 Ar59 (j := (3 : Int32)) hin59 (g := (mkF m 168 #[iv 2, iv xc, iv xd, rv buf, iv 4] [(.int (oLo xd)), (.int 3), (.ref o51), (.ref o51), (.ref o50), (.ref o50)])) rfl rfl (hb hby d3_168)
        have K := K.wr W59 (Or.inr ge_o51)
        have V_o51 := Arv.set Ar59 q59 Sz59 Nn59 Hs59 Ft59 (fits_nar_char _) W59 3 rfl (Nat.le_of_ble_eq_true rfl)
        rw [show nar .char (oLo xd) = (oLo xd) from oChrU (oL16 cp2 hB2)] at V_o51
        replace V_o51 : Arv Z h o51 k51 .char (4 : Int32) [(.int (oHi xc)), (.int (oLo xc)), (.int (oHi xd)), (.int (oLo xd))] (.int (0 : Int32)) := V_o51
        refine oWk.st (fun _ kt => st _ kt) ?_
        have E_o50 := (((((E_o50.ext E51).wr W53).wr W55).wr W57).wr W59)
        have F_value_o50 := (((((F_value_o50.ext E51).other W53 (Or.inl ne_o50_o51)).other W55 (Or.inl ne_o50_o51)).other W57 (Or.inl ne_o50_o51)).other W59 (Or.inl ne_o50_o51))
        have F_coder_o50 := (((((F_coder_o50.ext E51).other W53 (Or.inl ne_o50_o51)).other W55 (Or.inl ne_o50_o51)).other W57 (Or.inl ne_o50_o51)).other W59 (Or.inl ne_o50_o51))
        have V_buf := (V_buf.other W59 ne_buf_o51)
        have lt_buf := V_buf.lt
        have lt_o50 := E_o50.lt
        have lt_o51 := V_o51.lt
        have Oh := K.old O0 all0
        obtain ⟨_, T, h, Lc61, X, e0, hQ, st⟩ := (cs25 hw).run X hx hZ hown e0 (A := [(.ref o50), (.ref o51)]) ⟨rfl, _, _, rfl⟩ (rI1U_4 l Z a0 hw [] o50 o51 k51 xz .null (.int (0 : Int32)) (oHi xc) (oLo xc) (oHi xd) (oLo xd) h Oh S_Z hz S_A S_H S_L (Nat.le_trans O0.1 ge_o50) E_o50 F_value_o50 F_coder_o50 V_o51 (oH16 cp1 hB1) (oL16 cp1 hB1) (oH16 cp2 hB2) (oL16 cp2 hB2) hU) (W := 1) (by decide) hml (Ls := #[iv 2, iv xc, iv xd, rv buf, iv 4]) rfl (rest := [(.ref o50)]) rfl rfl hby d3_169
        obtain ⟨nb60, nk60, rfl, K60, E_o50, F_coder_o50, F_value_o50, gn_nb60, V_nb60⟩ := hQ
        have ge_nb60 := Nat.le_trans K.le gn_nb60
        have ne_buf_nb60 : buf ≠ nb60 := Nat.ne_of_lt (Nat.lt_of_lt_of_le lt_buf gn_nb60)
        have ne_o50_nb60 : o50 ≠ nb60 := Nat.ne_of_lt (Nat.lt_of_lt_of_le lt_o50 gn_nb60)
        have ne_o51_nb60 : o51 ≠ nb60 := Nat.ne_of_lt (Nat.lt_of_lt_of_le lt_o51 gn_nb60)
        have K := K.call K60 (allS (Or.inr ge_o50) all0)
        refine oWk.to (mkF m 172 #[iv 2, iv xc, iv xd, rv buf, iv 4] [(.ref o50)]) (fun _ kt => st _ kt) ?_
        exact oRetA X hx hlk hret rfl rfl (hb hby d3_172) (by rw [e0]; exact ⟨o50, rfl, K, ge_o50, (by show oTx Z _ _ (oEnc xc ++ (oEnc xd ++ [])); rw [oEnc_s hB1, oEnc_s hB2]; exact ⟨_, _, E_o50, F_value_o50, Or.inr ⟨F_coder_o50, V_nb60, (oAS (oH16 cp1 hB1) (oAS (oL16 cp1 hB1) (oAS (oH16 cp2 hB2) (oAS (oL16 cp2 hB2) oA0))))⟩⟩)⟩) (by decide) (by decide)
theorem oR11 (x : Int32) : 0 ≤ ((x &&& 2097151) % 1114112).toInt ∧ ((x &&& 2097151) % 1114112).toInt < 1114112 := by
  have a := c_mask x 2097151 21 (by decide) (by decide)
  have b := (c_irem (x &&& 2097151) 1114112 1114112 rfl).1
  omega
theorem oCp1 {r : Int32} (h : 0 ≤ r.toInt ∧ r.toInt < 1114112) (g : r < (55296 : Int32)) : oCp r := by
  have a := (oI 55296 55296 (by decide) r).1.mp g
  exact ⟨h.1, h.2, Or.inl a⟩
theorem oCp2 {r : Int32} (h : 0 ≤ r.toInt ∧ r.toInt < 1114112) (g : (57343 : Int32) < r) : oCp r := by
  have a := (oI 57343 57343 (by decide) r).2.mp g
  exact ⟨h.1, h.2, Or.inr (by omega)⟩
theorem oCp3 {r : Int32} (g : ¬ r < (55296 : Int32)) (q : ¬ (57343 : Int32) < r) : oCp (r + (8192 : Int32)) := by
  have a : ¬ r.toInt < 55296 := fun z => g ((oI 55296 55296 (by decide) r).1.mpr z)
  have b : ¬ 57343 < r.toInt := fun z => q ((oI 57343 57343 (by decide) r).2.mpr z)
  have c := c_iadd r 8192
  have k : (8192 : Int32).toInt = 8192 := by decide
  have d := rng32 (r + (8192 : Int32))
  exact ⟨by omega, by omega, Or.inr (by omega)⟩
theorem oLn3 (x : Int32) : ((x &&& 3) % 3) = 0 ∨ ((x &&& 3) % 3) = 1 ∨ ((x &&& 3) % 3) = 2 := by
  have a := c_mask x 3 2 (by decide) (by decide)
  have b := (c_irem (x &&& 3) 3 3 rfl).1
  have e : ∀ j : Int32, ((x &&& 3) % 3).toInt = j.toInt → ((x &&& 3) % 3) = j := fun j q => Int32.toInt_inj.mp q
  have d : ((x &&& 3) % 3).toInt = 0 ∨ ((x &&& 3) % 3).toInt = 1 ∨ ((x &&& 3) % 3).toInt = 2 := by omega
  exact d.imp (e 0) (Or.imp (e 1) (e 2))
def Q_rCp (Z : State) (xp : Int32) (h0 : Heap) (v : Option Value) (h : Heap) (L : List Loc) : Prop := ∃ (ne : Int32), v = some (.int ne) ∧ h = h0 ∧ oKp h0 h [] L ∧ (oCp ne)
abbrev yy27 : MethodName := ⟨"com/example/congruent/congruent/graph/CodePointOrderComparePinLaw", "cp", "(I)I"⟩
theorem d1_0 : decode method_3_code 0 = .ok (.iload_n 0, 1) := by decide +kernel
theorem d1_1 : decode method_3_code 1 = .ok (.ldc 34, 2) := by decide +kernel
theorem d1_3 : decode method_3_code 3 = .ok (.iand, 1) := by decide +kernel
theorem d1_4 : decode method_3_code 4 = .ok (.ldc 35, 2) := by decide +kernel
theorem d1_6 : decode method_3_code 6 = .ok (.irem, 1) := by decide +kernel
theorem d1_7 : decode method_3_code 7 = .ok (.istore_n 1, 1) := by decide +kernel
theorem d1_8 : decode method_3_code 8 = .ok (.iload_n 1, 1) := by decide +kernel
theorem d1_9 : decode method_3_code 9 = .ok (.ldc 36, 2) := by decide +kernel
theorem d1_11 : decode method_3_code 11 = .ok (.if_icmp .lt 15, 3) := by decide +kernel
theorem d1_26 : decode method_3_code 26 = .ok (.iload_n 1, 1) := by decide +kernel
theorem d1_27 : decode method_3_code 27 = .ok (.ireturn, 1) := by decide +kernel
theorem d1_14 : decode method_3_code 14 = .ok (.iload_n 1, 1) := by decide +kernel
theorem d1_15 : decode method_3_code 15 = .ok (.ldc 37, 2) := by decide +kernel
theorem d1_17 : decode method_3_code 17 = .ok (.if_icmp .gt 9, 3) := by decide +kernel
theorem d1_20 : decode method_3_code 20 = .ok (.iload_n 1, 1) := by decide +kernel
theorem d1_21 : decode method_3_code 21 = .ok (.sipush 8192, 3) := by decide +kernel
theorem d1_24 : decode method_3_code 24 = .ok (.iadd, 1) := by decide +kernel
theorem d1_25 : decode method_3_code 25 = .ok (.ireturn, 1) := by decide +kernel
theorem rCp (l : Launch) (Z : State) (a0 : Array Value) (hw : oHW a0 Z) (ws : List Jvm.Cond) (xp : Int32) (h0 : Heap) (O0 : Ext Z.heap h0)  :
    oCon l Z yy27 method_3_code 2 (some .int) ws ({ frames := 0, cells := 0, slots := 0, locals := 0 } : Room) #[(.int xp)] h0 (Q_rCp Z xp h0) := by
  refine oCon.of (plainFor_of_name pn_7) ?_
  intro p e s m below meth c T X hx hby hml hown hnm hret hlk hZ e0
  have hml : c.maxLocals = 2 := hml
  have K : oKp h0 h0 [] [] := oKp.nil _ _
  refine oWk.cast (g' := (mkF m 0 #[iv xp, uu] [])) (by first | rfl | (simp [entryFrame, mkF, argsToLocals, Value.category]; done)) ?_
  refine oWk.st (fun _ kt => zI X hx hby d1_0 rfl rfl kt) ?_
  refine oWk.st (fun _ kt => X.ldcI hx hown (mvT hZ (oW hw 4 rfl)) rfl (hb hby d1_1) (XS.iand X.here hx rfl (hb hby d1_3) rfl kt)) ?_
  refine oWk.to (mkF m 7 #[iv xp, uu] [(.int ((xp &&& (2097151 : Int32)) % (1114112 : Int32)))]) (fun _ kt => X.ldcI hx hown (mvT hZ (oW hw 5 rfl)) rfl (hb hby d1_4) (iremM X hx rfl (hb hby d1_6) rfl (by decide) kt)) ?_
  generalize hrr : ((xp &&& (2097151 : Int32)) % (1114112 : Int32)) = rr
  show oWk _ _ _ _ T (mkF m 7 #[iv xp, uu] [(.int rr)])
  have hr := oR11 xp
  rw [hrr] at hr
  refine oWk.st (fun _ kt => zSn X hx hby d1_7 rfl rfl (l' := #[iv xp, iv rr]) rfl (zI X hx hby d1_8 rfl rfl kt)) ?_
  refine oWk.to (mkF m 11 #[iv xp, iv rr] [(.int 55296), (.int rr)]) (fun _ kt => X.ldcI hx hown (mvT hZ (oW hw 6 rfl)) rfl (hb hby d1_9) kt) ?_
  by_cases hc11 : rr < (55296 : Int32)
  · refine oWk.to (mkF m 26 #[iv xp, iv rr] []) (fun _ kt => zY X hx hby d1_11 rfl rfl (tlt hc11).1 (pc' := 26) rfl kt) ?_
    refine oWk.to (mkF m 27 #[iv xp, iv rr] [(.int rr)]) (fun _ kt => zI X hx hby d1_26 rfl rfl kt) ?_
    exact oRetI X hx hlk hret (hb hby d1_27) (by rw [e0]; exact ⟨rr, rfl, rfl, K, (oCp1 hr hc11)⟩) (by decide) (by decide)
  · refine oWk.to (mkF m 14 #[iv xp, iv rr] []) (fun _ kt => zN X hx hby d1_11 rfl rfl (flt hc11).1 kt) ?_
    refine oWk.st (fun _ kt => zI X hx hby d1_14 rfl rfl kt) ?_
    refine oWk.to (mkF m 17 #[iv xp, iv rr] [(.int 57343), (.int rr)]) (fun _ kt => X.ldcI hx hown (mvT hZ (oW hw 78 rfl)) rfl (hb hby d1_15) kt) ?_
    by_cases hc17 : (57343 : Int32) < rr
    · refine oWk.to (mkF m 26 #[iv xp, iv rr] []) (fun _ kt => zY X hx hby d1_17 rfl rfl (tlt hc17).2.2.1 (pc' := 26) rfl kt) ?_
      refine oWk.to (mkF m 27 #[iv xp, iv rr] [(.int rr)]) (fun _ kt => zI X hx hby d1_26 rfl rfl kt) ?_
      exact oRetI X hx hlk hret (hb hby d1_27) (by rw [e0]; exact ⟨rr, rfl, rfl, K, (oCp2 hr hc17)⟩) (by decide) (by decide)
    · refine oWk.to (mkF m 20 #[iv xp, iv rr] []) (fun _ kt => zN X hx hby d1_17 rfl rfl (flt hc17).2.2.1 kt) ?_
      refine oWk.to (mkF m 25 #[iv xp, iv rr] [(.int (rr + (8192 : Int32)))]) (fun _ kt => zI X hx hby d1_20 rfl rfl (zM X hx hby d1_21 rfl (XS.iadd X.here hx rfl (hb hby d1_24) rfl kt))) ?_
      exact oRetI X hx hlk hret (hb hby d1_25) (by rw [e0]; exact ⟨(rr + (8192 : Int32)), rfl, rfl, K, (oCp3 hc11 hc17)⟩) (by decide) (by decide)
def Q_rPick (Z : State) (xm xa xw : Int32) (h0 : Heap) (v : Option Value) (h : Heap) (L : List Loc) : Prop := ∃ (ne : Int32), v = some (.int ne) ∧ h = h0 ∧ oKp h0 h [] L ∧ (oCp ne)
abbrev yy28 : MethodName := ⟨"com/example/congruent/congruent/graph/CodePointOrderComparePinLaw", "pick", "(III)I"⟩
theorem d2_0 : decode method_4_code 0 = .ok (.iload_n 0, 1) := by decide +kernel
theorem d2_1 : decode method_4_code 1 = .ok (.ifCond .ne 5, 3) := by decide +kernel
theorem d2_4 : decode method_4_code 4 = .ok (.iload_n 1, 1) := by decide +kernel
theorem d2_5 : decode method_4_code 5 = .ok (.ireturn, 1) := by decide +kernel
theorem d2_6 : decode method_4_code 6 = .ok (.iload_n 0, 1) := by decide +kernel
theorem d2_7 : decode method_4_code 7 = .ok (.iconst 2, 1) := by decide +kernel
theorem d2_8 : decode method_4_code 8 = .ok (.if_icmp .ne 14, 3) := by decide +kernel
theorem d2_11 : decode method_4_code 11 = .ok (.iload_n 1, 1) := by decide +kernel
theorem d2_12 : decode method_4_code 12 = .ok (.iload_n 2, 1) := by decide +kernel
theorem d2_13 : decode method_4_code 13 = .ok (.sipush 1023, 3) := by decide +kernel
theorem d2_16 : decode method_4_code 16 = .ok (.iand, 1) := by decide +kernel
theorem d2_17 : decode method_4_code 17 = .ok (.ixor, 1) := by decide +kernel
theorem d2_18 : decode method_4_code 18 = .ok (.invokestatic 7, 3) := by decide +kernel
theorem cs26 {a0 : Array Value} {Z : State} (hw : oHW a0 Z) : oCall Z Y7 (.invokestatic 7) yy27 method_3_code 2 (some .int) (oRs 1) := oCall.stat (oW hw 0 rfl) (oW hw 1 rfl) (oW hw 2 rfl) (oW hw 3 rfl) (by decide) pd_16
theorem d2_21 : decode method_4_code 21 = .ok (.ireturn, 1) := by decide +kernel
theorem d2_22 : decode method_4_code 22 = .ok (.iload_n 2, 1) := by decide +kernel
theorem d2_23 : decode method_4_code 23 = .ok (.invokestatic 7, 3) := by decide +kernel
theorem d2_26 : decode method_4_code 26 = .ok (.ireturn, 1) := by decide +kernel
theorem rPick (l : Launch) (Z : State) (a0 : Array Value) (hw : oHW a0 Z) (ws : List Jvm.Cond) (xm xa xw : Int32) (h0 : Heap) (O0 : Ext Z.heap h0) (cpa : oCp xa) :
    oCon l Z yy28 method_4_code 3 (some .int) ws ({ frames := 1, cells := 0, slots := 0, locals := 13 } : Room) #[(.int xm), (.int xa), (.int xw)] h0 (Q_rPick Z xm xa xw h0) := by
  refine oCon.of (plainFor_of_name pn_7) ?_
  intro p e s m below meth c T X hx hby hml hown hnm hret hlk hZ e0
  have hml : c.maxLocals = 3 := hml
  have K : oKp h0 h0 [] [] := oKp.nil _ _
  refine oWk.cast (g' := (mkF m 0 #[iv xm, iv xa, iv xw] [])) (by first | rfl | (simp [entryFrame, mkF, argsToLocals, Value.category]; done)) ?_
  refine oWk.to (mkF m 1 #[iv xm, iv xa, iv xw] [(.int xm)]) (fun _ kt => zI X hx hby d2_0 rfl rfl kt) ?_
  by_cases hc1 : xm = (0 : Int32)
  · refine oWk.to (mkF m 4 #[iv xm, iv xa, iv xw] []) (fun _ kt => zH X hx hby d2_1 rfl rfl ((if0 _ _).trans (teq hc1).2) kt) ?_
    refine oWk.to (mkF m 5 #[iv xm, iv xa, iv xw] [(.int xa)]) (fun _ kt => zI X hx hby d2_4 rfl rfl kt) ?_
    exact oRetI X hx hlk hret (hb hby d2_5) (by rw [e0]; exact ⟨xa, rfl, rfl, K, (cpa)⟩) (by decide) (by decide)
  · refine oWk.to (mkF m 6 #[iv xm, iv xa, iv xw] []) (fun _ kt => zF X hx hby d2_1 rfl rfl ((if0 _ _).trans (feq hc1).2) (pc' := 6) rfl kt) ?_
    refine oWk.to (mkF m 8 #[iv xm, iv xa, iv xw] [(.int 2), (.int xm)]) (fun _ kt => zI X hx hby d2_6 rfl rfl (zK X hx hby d2_7 rfl kt)) ?_
    by_cases hc8 : xm = (2 : Int32)
    · refine oWk.to (mkF m 11 #[iv xm, iv xa, iv xw] []) (fun _ kt => zN X hx hby d2_8 rfl rfl (teq hc8).2 kt) ?_
      refine oWk.st (fun _ kt => zI X hx hby d2_11 rfl rfl (zI X hx hby d2_12 rfl rfl (zM X hx hby d2_13 rfl (XS.iand X.here hx rfl (hb hby d2_16) rfl (XS.ixor X.here hx rfl (hb hby d2_17) rfl kt))))) ?_
      have Oh := K.old O0 all0
      obtain ⟨_, T, hq, Lc2, X, e0, hQ, st⟩ := (cs26 hw).run X hx hZ hown e0 (A := [(.int (xa ^^^ (xw &&& (1023 : Int32))))]) rfl (rCp l Z a0 hw [] (xa ^^^ (xw &&& (1023 : Int32))) h0 Oh ) (W := 0) (by decide) hml (Ls := #[iv xm, iv xa, iv xw]) rfl (rest := []) rfl rfl hby d2_18
      obtain ⟨ne1, rfl, e1, K1, hcp1⟩ := hQ
      rw [e1] at e0 K1
      have K := K.call K1 all0
      have hq := hcp1
      refine oWk.to (mkF m 21 #[iv xm, iv xa, iv xw] [(.int ne1)]) (fun _ kt => st _ kt) ?_
      exact oRetI X hx hlk hret (hb hby d2_21) (by rw [e0]; exact ⟨ne1, rfl, rfl, K, (hq)⟩) (by decide) (by decide)
    · refine oWk.to (mkF m 22 #[iv xm, iv xa, iv xw] []) (fun _ kt => zY X hx hby d2_8 rfl rfl (feq hc8).2 (pc' := 22) rfl kt) ?_
      refine oWk.st (fun _ kt => zI X hx hby d2_22 rfl rfl kt) ?_
      have Oh := K.old O0 all0
      obtain ⟨_, T, hq, Lc4, X, e0, hQ, st⟩ := (cs26 hw).run X hx hZ hown e0 (A := [(.int xw)]) rfl (rCp l Z a0 hw [] xw h0 Oh ) (W := 0) (by decide) hml (Ls := #[iv xm, iv xa, iv xw]) rfl (rest := []) rfl rfl hby d2_23
      obtain ⟨ne3, rfl, e1, K3, hcp3⟩ := hQ
      rw [e1] at e0 K3
      have K := K.call K3 all0
      have hq := hcp3
      refine oWk.to (mkF m 26 #[iv xm, iv xa, iv xw] [(.int ne3)]) (fun _ kt => st _ kt) ?_
      exact oRetI X hx hlk hret (hb hby d2_26) (by rw [e0]; exact ⟨ne3, rfl, rfl, K, (hq)⟩) (by decide) (by decide)
abbrev yy29 : MethodName := ⟨"com/example/congruent/congruent/graph/CodePointOrderComparePinLaw", "sign", "(I)I"⟩
theorem d12_0 : decode method_5_code 0 = .ok (.iload_n 0, 1) := by decide +kernel
theorem d12_1 : decode method_5_code 1 = .ok (.ifCond .le 5, 3) := by decide +kernel
theorem d12_4 : decode method_5_code 4 = .ok (.iconst 1, 1) := by decide +kernel
theorem d12_5 : decode method_5_code 5 = .ok (.ireturn, 1) := by decide +kernel
theorem d12_6 : decode method_5_code 6 = .ok (.iload_n 0, 1) := by decide +kernel
theorem d12_7 : decode method_5_code 7 = .ok (.ifCond .ge 5, 3) := by decide +kernel
theorem d12_10 : decode method_5_code 10 = .ok (.iconst (-1), 1) := by decide +kernel
theorem d12_11 : decode method_5_code 11 = .ok (.ireturn, 1) := by decide +kernel
theorem d12_12 : decode method_5_code 12 = .ok (.iconst 0, 1) := by decide +kernel
theorem d12_13 : decode method_5_code 13 = .ok (.ireturn, 1) := by decide +kernel
theorem rSgn (l : Launch) (Z : State) (a0 : Array Value) (hw : oHW a0 Z) (ws : List Jvm.Cond) (xp : Int32) (h0 : Heap) (O0 : Ext Z.heap h0)  :
    oCon l Z yy29 method_5_code 1 (some .int) ws ({ frames := 0, cells := 0, slots := 0, locals := 0 } : Room) #[(.int xp)] h0 (oPq (some (.int (oSgn xp))) h0) := by
  refine oCon.of (plainFor_of_name pn_7) ?_
  intro p e s m below meth c T X hx hby hml hown hnm hret hlk hZ e0
  have hml : c.maxLocals = 1 := hml
  have K : oKp h0 h0 [] [] := oKp.nil _ _
  refine oWk.cast (g' := (mkF m 0 #[iv xp] [])) (by first | rfl | (simp [entryFrame, mkF, argsToLocals, Value.category]; done)) ?_
  refine oWk.to (mkF m 1 #[iv xp] [(.int xp)]) (fun _ kt => zI X hx hby d12_0 rfl rfl kt) ?_
  by_cases hc1 : (0 : Int32) < xp
  · refine oWk.to (mkF m 4 #[iv xp] []) (fun _ kt => zH X hx hby d12_1 rfl rfl ((if0 _ _).trans (tlt hc1).2.2.2) kt) ?_
    refine oWk.to (mkF m 5 #[iv xp] [(.int 1)]) (fun _ kt => zK X hx hby d12_4 rfl kt) ?_
    exact oRetI X hx hlk hret (hb hby d12_5) (by rw [e0]; exact ⟨(by show _ = some (Value.int (oSgn xp)); rw [oSgn, if_pos hc1]), rfl, K⟩) (by decide) (by decide)
  · refine oWk.to (mkF m 6 #[iv xp] []) (fun _ kt => zF X hx hby d12_1 rfl rfl ((if0 _ _).trans (flt hc1).2.2.2) (pc' := 6) rfl kt) ?_
    refine oWk.to (mkF m 7 #[iv xp] [(.int xp)]) (fun _ kt => zI X hx hby d12_6 rfl rfl kt) ?_
    by_cases hc7 : xp < (0 : Int32)
    · refine oWk.to (mkF m 10 #[iv xp] []) (fun _ kt => zH X hx hby d12_7 rfl rfl ((if0 _ _).trans (tlt hc7).2.1) kt) ?_
      refine oWk.to (mkF m 11 #[iv xp] [(.int (-1 : Int32))]) (fun _ kt => zK X hx hby d12_10 rfl kt) ?_
      exact oRetI X hx hlk hret (hb hby d12_11) (by rw [e0]; exact ⟨(by show _ = some (Value.int (oSgn xp)); rw [oSgn, if_neg hc1, if_pos hc7]), rfl, K⟩) (by decide) (by decide)
    · refine oWk.to (mkF m 12 #[iv xp] []) (fun _ kt => zF X hx hby d12_7 rfl rfl ((if0 _ _).trans (flt hc7).2.1) (pc' := 12) rfl kt) ?_
      refine oWk.to (mkF m 13 #[iv xp] [(.int 0)]) (fun _ kt => zK X hx hby d12_12 rfl kt) ?_
      exact oRetI X hx hlk hret (hb hby d12_13) (by rw [e0]; exact ⟨(by show _ = some (Value.int (oSgn xp)); rw [oSgn, if_neg hc1, if_neg hc7]), rfl, K⟩) (by decide) (by decide)
theorem oE9 : ¬ (1 : Int32) < 1 ∧ (0 : Int32) < 1 ∧ (0 : Int32) < 2 ∧ (1 : Int32) < 2 ∧ ¬ (0 : Int32) < 0 ∧ ¬ (2 : Int32) < 1 ∧ ¬ (2 : Int32) < 2 ∧ ¬ (1 : Int32) < 0 ∧ ¬ (2 : Int32) < 0 := by decide
abbrev yy30 : MethodName := ⟨"com/example/congruent/congruent/graph/CodePointOrderComparePinLaw", "ref", "(IIIIII)I"⟩
theorem d13_0 : decode method_6_code 0 = .ok (.iload_n 0, 1) := by decide +kernel
theorem d13_1 : decode method_6_code 1 = .ok (.ifCond .le 53, 3) := by decide +kernel
theorem d13_54 : decode method_6_code 54 = .ok (.iload_n 0, 1) := by decide +kernel
theorem d13_55 : decode method_6_code 55 = .ok (.iload_n 3, 1) := by decide +kernel
theorem d13_56 : decode method_6_code 56 = .ok (.if_icmp .ge 5, 3) := by decide +kernel
theorem d13_61 : decode method_6_code 61 = .ok (.iload_n 0, 1) := by decide +kernel
theorem d13_62 : decode method_6_code 62 = .ok (.iload_n 3, 1) := by decide +kernel
theorem d13_63 : decode method_6_code 63 = .ok (.if_icmp .le 5, 3) := by decide +kernel
theorem d13_68 : decode method_6_code 68 = .ok (.iconst 0, 1) := by decide +kernel
theorem d13_69 : decode method_6_code 69 = .ok (.ireturn, 1) := by decide +kernel
theorem rRef_0_0 (l : Launch) (Z : State) (a0 : Array Value) (hw : oHW a0 Z) (ws : List Jvm.Cond) (xa xc xb xd : Int32) (h0 : Heap) (O0 : Ext Z.heap h0)  :
    oCon l Z yy30 method_6_code 6 (some .int) ws ({ frames := 0, cells := 0, slots := 0, locals := 0 } : Room) #[(.int (0 : Int32)), (.int xa), (.int xc), (.int (0 : Int32)), (.int xb), (.int xd)] h0 (oPq (some (.int (oRef (0 : Int32) xa xc (0 : Int32) xb xd))) h0) := by
  refine oCon.of (plainFor_of_name pn_7) ?_
  intro p e s m below meth c T X hx hby hml hown hnm hret hlk hZ e0
  have hml : c.maxLocals = 6 := hml
  have K : oKp h0 h0 [] [] := oKp.nil _ _
  refine oWk.cast (g' := (mkF m 0 #[iv 0, iv xa, iv xc, iv 0, iv xb, iv xd] [])) (by first | rfl | (simp [entryFrame, mkF, argsToLocals, Value.category]; done)) ?_
  obtain ⟨e_1, e_2, e_3, e_4, e_5, e_6, e_7, e_8, e_9⟩ := oE9
  refine oWk.to (mkF m 63 #[iv 0, iv xa, iv xc, iv 0, iv xb, iv xd] [(.int 0), (.int 0)]) (fun _ kt => zI X hx hby d13_0 rfl rfl (zF X hx hby d13_1 rfl rfl ((if0 _ _).trans (flt (by decide)).2.2.2) (pc' := 54) rfl (zI X hx hby d13_54 rfl rfl (zI X hx hby d13_55 rfl rfl (zY X hx hby d13_56 rfl rfl (flt (by decide)).2.1 (pc' := 61) rfl (zI X hx hby d13_61 rfl rfl (zI X hx hby d13_62 rfl rfl kt))))))) ?_
  refine oWk.to (mkF m 69 #[iv 0, iv xa, iv xc, iv 0, iv xb, iv xd] [(.int 0)]) (fun _ kt => zY X hx hby d13_63 rfl rfl (flt (by decide)).2.2.2 (pc' := 68) rfl (zK X hx hby d13_68 rfl kt)) ?_
  exact oRetI X hx hlk hret (hb hby d13_69) (by rw [e0]; exact ⟨(by show _ = some (Value.int (oRef (0 : Int32) xa xc (0 : Int32) xb xd)); simp [oRef, e_1, e_2, e_3, e_4, e_5, e_6, e_7, e_8, e_9]), rfl, K⟩) (by decide) (by decide)
theorem d13_59 : decode method_6_code 59 = .ok (.iconst (-1), 1) := by decide +kernel
theorem d13_60 : decode method_6_code 60 = .ok (.ireturn, 1) := by decide +kernel
theorem rRef_0_1 (l : Launch) (Z : State) (a0 : Array Value) (hw : oHW a0 Z) (ws : List Jvm.Cond) (xa xc xb xd : Int32) (h0 : Heap) (O0 : Ext Z.heap h0)  :
    oCon l Z yy30 method_6_code 6 (some .int) ws ({ frames := 0, cells := 0, slots := 0, locals := 0 } : Room) #[(.int (0 : Int32)), (.int xa), (.int xc), (.int (1 : Int32)), (.int xb), (.int xd)] h0 (oPq (some (.int (oRef (0 : Int32) xa xc (1 : Int32) xb xd))) h0) := by
  refine oCon.of (plainFor_of_name pn_7) ?_
  intro p e s m below meth c T X hx hby hml hown hnm hret hlk hZ e0
  have hml : c.maxLocals = 6 := hml
  have K : oKp h0 h0 [] [] := oKp.nil _ _
  refine oWk.cast (g' := (mkF m 0 #[iv 0, iv xa, iv xc, iv 1, iv xb, iv xd] [])) (by first | rfl | (simp [entryFrame, mkF, argsToLocals, Value.category]; done)) ?_
  obtain ⟨e_1, e_2, e_3, e_4, e_5, e_6, e_7, e_8, e_9⟩ := oE9
  refine oWk.to (mkF m 60 #[iv 0, iv xa, iv xc, iv 1, iv xb, iv xd] [(.int (-1 : Int32))]) (fun _ kt => zI X hx hby d13_0 rfl rfl (zF X hx hby d13_1 rfl rfl ((if0 _ _).trans (flt (by decide)).2.2.2) (pc' := 54) rfl (zI X hx hby d13_54 rfl rfl (zI X hx hby d13_55 rfl rfl (zN X hx hby d13_56 rfl rfl (tlt (by decide)).2.1 (zK X hx hby d13_59 rfl kt)))))) ?_
  exact oRetI X hx hlk hret (hb hby d13_60) (by rw [e0]; exact ⟨(by show _ = some (Value.int (oRef (0 : Int32) xa xc (1 : Int32) xb xd)); simp [oRef, e_1, e_2, e_3, e_4, e_5, e_6, e_7, e_8, e_9]), rfl, K⟩) (by decide) (by decide)
theorem rRef_0_2 (l : Launch) (Z : State) (a0 : Array Value) (hw : oHW a0 Z) (ws : List Jvm.Cond) (xa xc xb xd : Int32) (h0 : Heap) (O0 : Ext Z.heap h0)  :
    oCon l Z yy30 method_6_code 6 (some .int) ws ({ frames := 0, cells := 0, slots := 0, locals := 0 } : Room) #[(.int (0 : Int32)), (.int xa), (.int xc), (.int (2 : Int32)), (.int xb), (.int xd)] h0 (oPq (some (.int (oRef (0 : Int32) xa xc (2 : Int32) xb xd))) h0) := by
  refine oCon.of (plainFor_of_name pn_7) ?_
  intro p e s m below meth c T X hx hby hml hown hnm hret hlk hZ e0
  have hml : c.maxLocals = 6 := hml
  have K : oKp h0 h0 [] [] := oKp.nil _ _
  refine oWk.cast (g' := (mkF m 0 #[iv 0, iv xa, iv xc, iv 2, iv xb, iv xd] [])) (by first | rfl | (simp [entryFrame, mkF, argsToLocals, Value.category]; done)) ?_
  obtain ⟨e_1, e_2, e_3, e_4, e_5, e_6, e_7, e_8, e_9⟩ := oE9
  refine oWk.to (mkF m 60 #[iv 0, iv xa, iv xc, iv 2, iv xb, iv xd] [(.int (-1 : Int32))]) (fun _ kt => zI X hx hby d13_0 rfl rfl (zF X hx hby d13_1 rfl rfl ((if0 _ _).trans (flt (by decide)).2.2.2) (pc' := 54) rfl (zI X hx hby d13_54 rfl rfl (zI X hx hby d13_55 rfl rfl (zN X hx hby d13_56 rfl rfl (tlt (by decide)).2.1 (zK X hx hby d13_59 rfl kt)))))) ?_
  exact oRetI X hx hlk hret (hb hby d13_60) (by rw [e0]; exact ⟨(by show _ = some (Value.int (oRef (0 : Int32) xa xc (2 : Int32) xb xd)); simp [oRef, e_1, e_2, e_3, e_4, e_5, e_6, e_7, e_8, e_9]), rfl, K⟩) (by decide) (by decide)
theorem d13_4 : decode method_6_code 4 = .ok (.iload_n 3, 1) := by decide +kernel
theorem d13_5 : decode method_6_code 5 = .ok (.ifCond .le 49, 3) := by decide +kernel
theorem d13_66 : decode method_6_code 66 = .ok (.iconst 1, 1) := by decide +kernel
theorem d13_67 : decode method_6_code 67 = .ok (.ireturn, 1) := by decide +kernel
theorem rRef_1_0 (l : Launch) (Z : State) (a0 : Array Value) (hw : oHW a0 Z) (ws : List Jvm.Cond) (xa xc xb xd : Int32) (h0 : Heap) (O0 : Ext Z.heap h0)  :
    oCon l Z yy30 method_6_code 6 (some .int) ws ({ frames := 0, cells := 0, slots := 0, locals := 0 } : Room) #[(.int (1 : Int32)), (.int xa), (.int xc), (.int (0 : Int32)), (.int xb), (.int xd)] h0 (oPq (some (.int (oRef (1 : Int32) xa xc (0 : Int32) xb xd))) h0) := by
  refine oCon.of (plainFor_of_name pn_7) ?_
  intro p e s m below meth c T X hx hby hml hown hnm hret hlk hZ e0
  have hml : c.maxLocals = 6 := hml
  have K : oKp h0 h0 [] [] := oKp.nil _ _
  refine oWk.cast (g' := (mkF m 0 #[iv 1, iv xa, iv xc, iv 0, iv xb, iv xd] [])) (by first | rfl | (simp [entryFrame, mkF, argsToLocals, Value.category]; done)) ?_
  obtain ⟨e_1, e_2, e_3, e_4, e_5, e_6, e_7, e_8, e_9⟩ := oE9
  refine oWk.to (mkF m 61 #[iv 1, iv xa, iv xc, iv 0, iv xb, iv xd] []) (fun _ kt => zI X hx hby d13_0 rfl rfl (zH X hx hby d13_1 rfl rfl ((if0 _ _).trans (tlt (by decide)).2.2.2) (zI X hx hby d13_4 rfl rfl (zF X hx hby d13_5 rfl rfl ((if0 _ _).trans (flt (by decide)).2.2.2) (pc' := 54) rfl (zI X hx hby d13_54 rfl rfl (zI X hx hby d13_55 rfl rfl (zY X hx hby d13_56 rfl rfl (flt (by decide)).2.1 (pc' := 61) rfl kt))))))) ?_
  refine oWk.to (mkF m 67 #[iv 1, iv xa, iv xc, iv 0, iv xb, iv xd] [(.int 1)]) (fun _ kt => zI X hx hby d13_61 rfl rfl (zI X hx hby d13_62 rfl rfl (zN X hx hby d13_63 rfl rfl (tlt (by decide)).2.2.2 (zK X hx hby d13_66 rfl kt)))) ?_
  exact oRetI X hx hlk hret (hb hby d13_67) (by rw [e0]; exact ⟨(by show _ = some (Value.int (oRef (1 : Int32) xa xc (0 : Int32) xb xd)); simp [oRef, e_1, e_2, e_3, e_4, e_5, e_6, e_7, e_8, e_9]), rfl, K⟩) (by decide) (by decide)
theorem d13_8 : decode method_6_code 8 = .ok (.iload_n 1, 1) := by decide +kernel
theorem d13_9 : decode method_6_code 9 = .ok (.iload 4, 2) := by decide +kernel
theorem d13_11 : decode method_6_code 11 = .ok (.if_icmp .eq 15, 3) := by decide +kernel
theorem d13_26 : decode method_6_code 26 = .ok (.iload_n 0, 1) := by decide +kernel
theorem d13_27 : decode method_6_code 27 = .ok (.iconst 1, 1) := by decide +kernel
theorem d13_28 : decode method_6_code 28 = .ok (.if_icmp .le 26, 3) := by decide +kernel
theorem d13_14 : decode method_6_code 14 = .ok (.iload_n 1, 1) := by decide +kernel
theorem d13_15 : decode method_6_code 15 = .ok (.iload 4, 2) := by decide +kernel
theorem d13_17 : decode method_6_code 17 = .ok (.if_icmp .ge 7, 3) := by decide +kernel
theorem d13_20 : decode method_6_code 20 = .ok (.iconst (-1), 1) := by decide +kernel
theorem d13_21 : decode method_6_code 21 = .ok (.goto 4, 3) := by decide +kernel
theorem d13_25 : decode method_6_code 25 = .ok (.ireturn, 1) := by decide +kernel
theorem d13_24 : decode method_6_code 24 = .ok (.iconst 1, 1) := by decide +kernel
theorem rRef_1_1 (l : Launch) (Z : State) (a0 : Array Value) (hw : oHW a0 Z) (ws : List Jvm.Cond) (xa xc xb xd : Int32) (h0 : Heap) (O0 : Ext Z.heap h0)  :
    oCon l Z yy30 method_6_code 6 (some .int) ws ({ frames := 0, cells := 0, slots := 0, locals := 0 } : Room) #[(.int (1 : Int32)), (.int xa), (.int xc), (.int (1 : Int32)), (.int xb), (.int xd)] h0 (oPq (some (.int (oRef (1 : Int32) xa xc (1 : Int32) xb xd))) h0) := by
  refine oCon.of (plainFor_of_name pn_7) ?_
  intro p e s m below meth c T X hx hby hml hown hnm hret hlk hZ e0
  have hml : c.maxLocals = 6 := hml
  have K : oKp h0 h0 [] [] := oKp.nil _ _
  refine oWk.cast (g' := (mkF m 0 #[iv 1, iv xa, iv xc, iv 1, iv xb, iv xd] [])) (by first | rfl | (simp [entryFrame, mkF, argsToLocals, Value.category]; done)) ?_
  obtain ⟨e_1, e_2, e_3, e_4, e_5, e_6, e_7, e_8, e_9⟩ := oE9
  refine oWk.to (mkF m 11 #[iv 1, iv xa, iv xc, iv 1, iv xb, iv xd] [(.int xb), (.int xa)]) (fun _ kt => zI X hx hby d13_0 rfl rfl (zH X hx hby d13_1 rfl rfl ((if0 _ _).trans (tlt (by decide)).2.2.2) (zI X hx hby d13_4 rfl rfl (zH X hx hby d13_5 rfl rfl ((if0 _ _).trans (tlt (by decide)).2.2.2) (zI X hx hby d13_8 rfl rfl (zJ X hx hby d13_9 rfl rfl kt)))))) ?_
  by_cases hc11 : xa = xb
  · refine oWk.to (mkF m 26 #[iv 1, iv xa, iv xc, iv 1, iv xb, iv xd] []) (fun _ kt => zY X hx hby d13_11 rfl rfl (teq hc11).1 (pc' := 26) rfl kt) ?_
    refine oWk.to (mkF m 62 #[iv 1, iv xa, iv xc, iv 1, iv xb, iv xd] [(.int 1)]) (fun _ kt => zI X hx hby d13_26 rfl rfl (zK X hx hby d13_27 rfl (zY X hx hby d13_28 rfl rfl (flt (by decide)).2.2.2 (pc' := 54) rfl (zI X hx hby d13_54 rfl rfl (zI X hx hby d13_55 rfl rfl (zY X hx hby d13_56 rfl rfl (flt (by decide)).2.1 (pc' := 61) rfl (zI X hx hby d13_61 rfl rfl kt))))))) ?_
    refine oWk.to (mkF m 69 #[iv 1, iv xa, iv xc, iv 1, iv xb, iv xd] [(.int 0)]) (fun _ kt => zI X hx hby d13_62 rfl rfl (zY X hx hby d13_63 rfl rfl (flt (by decide)).2.2.2 (pc' := 68) rfl (zK X hx hby d13_68 rfl kt))) ?_
    exact oRetI X hx hlk hret (hb hby d13_69) (by rw [e0]; exact ⟨(by show _ = some (Value.int (oRef (1 : Int32) xa xc (1 : Int32) xb xd)); simp [oRef, hc11, e_1, e_2, e_3, e_4, e_5, e_6, e_7, e_8, e_9]), rfl, K⟩) (by decide) (by decide)
  · refine oWk.to (mkF m 14 #[iv 1, iv xa, iv xc, iv 1, iv xb, iv xd] []) (fun _ kt => zN X hx hby d13_11 rfl rfl (feq hc11).1 kt) ?_
    refine oWk.to (mkF m 17 #[iv 1, iv xa, iv xc, iv 1, iv xb, iv xd] [(.int xb), (.int xa)]) (fun _ kt => zI X hx hby d13_14 rfl rfl (zJ X hx hby d13_15 rfl rfl kt)) ?_
    by_cases hc17 : xa < xb
    · refine oWk.to (mkF m 20 #[iv 1, iv xa, iv xc, iv 1, iv xb, iv xd] []) (fun _ kt => zN X hx hby d13_17 rfl rfl (tlt hc17).2.1 kt) ?_
      refine oWk.to (mkF m 25 #[iv 1, iv xa, iv xc, iv 1, iv xb, iv xd] [(.int (-1 : Int32))]) (fun _ kt => zK X hx hby d13_20 rfl (zG X hx hby d13_21 rfl (pc' := 25) rfl kt)) ?_
      exact oRetI X hx hlk hret (hb hby d13_25) (by rw [e0]; exact ⟨(by show _ = some (Value.int (oRef (1 : Int32) xa xc (1 : Int32) xb xd)); simp [oRef, hc11, hc17, e_1, e_2, e_3, e_4, e_5, e_6, e_7, e_8, e_9]), rfl, K⟩) (by decide) (by decide)
    · refine oWk.to (mkF m 24 #[iv 1, iv xa, iv xc, iv 1, iv xb, iv xd] []) (fun _ kt => zY X hx hby d13_17 rfl rfl (flt hc17).2.1 (pc' := 24) rfl kt) ?_
      refine oWk.to (mkF m 25 #[iv 1, iv xa, iv xc, iv 1, iv xb, iv xd] [(.int 1)]) (fun _ kt => zK X hx hby d13_24 rfl kt) ?_
      exact oRetI X hx hlk hret (hb hby d13_25) (by rw [e0]; exact ⟨(by show _ = some (Value.int (oRef (1 : Int32) xa xc (1 : Int32) xb xd)); simp [oRef, hc11, hc17, e_1, e_2, e_3, e_4, e_5, e_6, e_7, e_8, e_9]), rfl, K⟩) (by decide) (by decide)
theorem rRef_1_2 (l : Launch) (Z : State) (a0 : Array Value) (hw : oHW a0 Z) (ws : List Jvm.Cond) (xa xc xb xd : Int32) (h0 : Heap) (O0 : Ext Z.heap h0)  :
    oCon l Z yy30 method_6_code 6 (some .int) ws ({ frames := 0, cells := 0, slots := 0, locals := 0 } : Room) #[(.int (1 : Int32)), (.int xa), (.int xc), (.int (2 : Int32)), (.int xb), (.int xd)] h0 (oPq (some (.int (oRef (1 : Int32) xa xc (2 : Int32) xb xd))) h0) := by
  refine oCon.of (plainFor_of_name pn_7) ?_
  intro p e s m below meth c T X hx hby hml hown hnm hret hlk hZ e0
  have hml : c.maxLocals = 6 := hml
  have K : oKp h0 h0 [] [] := oKp.nil _ _
  refine oWk.cast (g' := (mkF m 0 #[iv 1, iv xa, iv xc, iv 2, iv xb, iv xd] [])) (by first | rfl | (simp [entryFrame, mkF, argsToLocals, Value.category]; done)) ?_
  obtain ⟨e_1, e_2, e_3, e_4, e_5, e_6, e_7, e_8, e_9⟩ := oE9
  refine oWk.to (mkF m 11 #[iv 1, iv xa, iv xc, iv 2, iv xb, iv xd] [(.int xb), (.int xa)]) (fun _ kt => zI X hx hby d13_0 rfl rfl (zH X hx hby d13_1 rfl rfl ((if0 _ _).trans (tlt (by decide)).2.2.2) (zI X hx hby d13_4 rfl rfl (zH X hx hby d13_5 rfl rfl ((if0 _ _).trans (tlt (by decide)).2.2.2) (zI X hx hby d13_8 rfl rfl (zJ X hx hby d13_9 rfl rfl kt)))))) ?_
  by_cases hc11 : xa = xb
  · refine oWk.to (mkF m 26 #[iv 1, iv xa, iv xc, iv 2, iv xb, iv xd] []) (fun _ kt => zY X hx hby d13_11 rfl rfl (teq hc11).1 (pc' := 26) rfl kt) ?_
    refine oWk.to (mkF m 60 #[iv 1, iv xa, iv xc, iv 2, iv xb, iv xd] [(.int (-1 : Int32))]) (fun _ kt => zI X hx hby d13_26 rfl rfl (zK X hx hby d13_27 rfl (zY X hx hby d13_28 rfl rfl (flt (by decide)).2.2.2 (pc' := 54) rfl (zI X hx hby d13_54 rfl rfl (zI X hx hby d13_55 rfl rfl (zN X hx hby d13_56 rfl rfl (tlt (by decide)).2.1 (zK X hx hby d13_59 rfl kt))))))) ?_
    exact oRetI X hx hlk hret (hb hby d13_60) (by rw [e0]; exact ⟨(by show _ = some (Value.int (oRef (1 : Int32) xa xc (2 : Int32) xb xd)); simp [oRef, hc11, e_1, e_2, e_3, e_4, e_5, e_6, e_7, e_8, e_9]), rfl, K⟩) (by decide) (by decide)
  · refine oWk.to (mkF m 14 #[iv 1, iv xa, iv xc, iv 2, iv xb, iv xd] []) (fun _ kt => zN X hx hby d13_11 rfl rfl (feq hc11).1 kt) ?_
    refine oWk.to (mkF m 17 #[iv 1, iv xa, iv xc, iv 2, iv xb, iv xd] [(.int xb), (.int xa)]) (fun _ kt => zI X hx hby d13_14 rfl rfl (zJ X hx hby d13_15 rfl rfl kt)) ?_
    by_cases hc17 : xa < xb
    · refine oWk.to (mkF m 20 #[iv 1, iv xa, iv xc, iv 2, iv xb, iv xd] []) (fun _ kt => zN X hx hby d13_17 rfl rfl (tlt hc17).2.1 kt) ?_
      refine oWk.to (mkF m 25 #[iv 1, iv xa, iv xc, iv 2, iv xb, iv xd] [(.int (-1 : Int32))]) (fun _ kt => zK X hx hby d13_20 rfl (zG X hx hby d13_21 rfl (pc' := 25) rfl kt)) ?_
      exact oRetI X hx hlk hret (hb hby d13_25) (by rw [e0]; exact ⟨(by show _ = some (Value.int (oRef (1 : Int32) xa xc (2 : Int32) xb xd)); simp [oRef, hc11, hc17, e_1, e_2, e_3, e_4, e_5, e_6, e_7, e_8, e_9]), rfl, K⟩) (by decide) (by decide)
    · refine oWk.to (mkF m 24 #[iv 1, iv xa, iv xc, iv 2, iv xb, iv xd] []) (fun _ kt => zY X hx hby d13_17 rfl rfl (flt hc17).2.1 (pc' := 24) rfl kt) ?_
      refine oWk.to (mkF m 25 #[iv 1, iv xa, iv xc, iv 2, iv xb, iv xd] [(.int 1)]) (fun _ kt => zK X hx hby d13_24 rfl kt) ?_
      exact oRetI X hx hlk hret (hb hby d13_25) (by rw [e0]; exact ⟨(by show _ = some (Value.int (oRef (1 : Int32) xa xc (2 : Int32) xb xd)); simp [oRef, hc11, hc17, e_1, e_2, e_3, e_4, e_5, e_6, e_7, e_8, e_9]), rfl, K⟩) (by decide) (by decide)
theorem rRef_2_0 (l : Launch) (Z : State) (a0 : Array Value) (hw : oHW a0 Z) (ws : List Jvm.Cond) (xa xc xb xd : Int32) (h0 : Heap) (O0 : Ext Z.heap h0)  :
    oCon l Z yy30 method_6_code 6 (some .int) ws ({ frames := 0, cells := 0, slots := 0, locals := 0 } : Room) #[(.int (2 : Int32)), (.int xa), (.int xc), (.int (0 : Int32)), (.int xb), (.int xd)] h0 (oPq (some (.int (oRef (2 : Int32) xa xc (0 : Int32) xb xd))) h0) := by
  refine oCon.of (plainFor_of_name pn_7) ?_
  intro p e s m below meth c T X hx hby hml hown hnm hret hlk hZ e0
  have hml : c.maxLocals = 6 := hml
  have K : oKp h0 h0 [] [] := oKp.nil _ _
  refine oWk.cast (g' := (mkF m 0 #[iv 2, iv xa, iv xc, iv 0, iv xb, iv xd] [])) (by first | rfl | (simp [entryFrame, mkF, argsToLocals, Value.category]; done)) ?_
  obtain ⟨e_1, e_2, e_3, e_4, e_5, e_6, e_7, e_8, e_9⟩ := oE9
  refine oWk.to (mkF m 61 #[iv 2, iv xa, iv xc, iv 0, iv xb, iv xd] []) (fun _ kt => zI X hx hby d13_0 rfl rfl (zH X hx hby d13_1 rfl rfl ((if0 _ _).trans (tlt (by decide)).2.2.2) (zI X hx hby d13_4 rfl rfl (zF X hx hby d13_5 rfl rfl ((if0 _ _).trans (flt (by decide)).2.2.2) (pc' := 54) rfl (zI X hx hby d13_54 rfl rfl (zI X hx hby d13_55 rfl rfl (zY X hx hby d13_56 rfl rfl (flt (by decide)).2.1 (pc' := 61) rfl kt))))))) ?_
  refine oWk.to (mkF m 67 #[iv 2, iv xa, iv xc, iv 0, iv xb, iv xd] [(.int 1)]) (fun _ kt => zI X hx hby d13_61 rfl rfl (zI X hx hby d13_62 rfl rfl (zN X hx hby d13_63 rfl rfl (tlt (by decide)).2.2.2 (zK X hx hby d13_66 rfl kt)))) ?_
  exact oRetI X hx hlk hret (hb hby d13_67) (by rw [e0]; exact ⟨(by show _ = some (Value.int (oRef (2 : Int32) xa xc (0 : Int32) xb xd)); simp [oRef, e_1, e_2, e_3, e_4, e_5, e_6, e_7, e_8, e_9]), rfl, K⟩) (by decide) (by decide)
theorem d13_31 : decode method_6_code 31 = .ok (.iload_n 3, 1) := by decide +kernel
theorem d13_32 : decode method_6_code 32 = .ok (.iconst 1, 1) := by decide +kernel
theorem d13_33 : decode method_6_code 33 = .ok (.if_icmp .le 21, 3) := by decide +kernel
theorem rRef_2_1 (l : Launch) (Z : State) (a0 : Array Value) (hw : oHW a0 Z) (ws : List Jvm.Cond) (xa xc xb xd : Int32) (h0 : Heap) (O0 : Ext Z.heap h0)  :
    oCon l Z yy30 method_6_code 6 (some .int) ws ({ frames := 0, cells := 0, slots := 0, locals := 0 } : Room) #[(.int (2 : Int32)), (.int xa), (.int xc), (.int (1 : Int32)), (.int xb), (.int xd)] h0 (oPq (some (.int (oRef (2 : Int32) xa xc (1 : Int32) xb xd))) h0) := by
  refine oCon.of (plainFor_of_name pn_7) ?_
  intro p e s m below meth c T X hx hby hml hown hnm hret hlk hZ e0
  have hml : c.maxLocals = 6 := hml
  have K : oKp h0 h0 [] [] := oKp.nil _ _
  refine oWk.cast (g' := (mkF m 0 #[iv 2, iv xa, iv xc, iv 1, iv xb, iv xd] [])) (by first | rfl | (simp [entryFrame, mkF, argsToLocals, Value.category]; done)) ?_
  obtain ⟨e_1, e_2, e_3, e_4, e_5, e_6, e_7, e_8, e_9⟩ := oE9
  refine oWk.to (mkF m 11 #[iv 2, iv xa, iv xc, iv 1, iv xb, iv xd] [(.int xb), (.int xa)]) (fun _ kt => zI X hx hby d13_0 rfl rfl (zH X hx hby d13_1 rfl rfl ((if0 _ _).trans (tlt (by decide)).2.2.2) (zI X hx hby d13_4 rfl rfl (zH X hx hby d13_5 rfl rfl ((if0 _ _).trans (tlt (by decide)).2.2.2) (zI X hx hby d13_8 rfl rfl (zJ X hx hby d13_9 rfl rfl kt)))))) ?_
  by_cases hc11 : xa = xb
  · refine oWk.to (mkF m 26 #[iv 2, iv xa, iv xc, iv 1, iv xb, iv xd] []) (fun _ kt => zY X hx hby d13_11 rfl rfl (teq hc11).1 (pc' := 26) rfl kt) ?_
    refine oWk.to (mkF m 55 #[iv 2, iv xa, iv xc, iv 1, iv xb, iv xd] [(.int 2)]) (fun _ kt => zI X hx hby d13_26 rfl rfl (zK X hx hby d13_27 rfl (zN X hx hby d13_28 rfl rfl (tlt (by decide)).2.2.2 (zI X hx hby d13_31 rfl rfl (zK X hx hby d13_32 rfl (zY X hx hby d13_33 rfl rfl (flt (by decide)).2.2.2 (pc' := 54) rfl (zI X hx hby d13_54 rfl rfl kt))))))) ?_
    refine oWk.to (mkF m 67 #[iv 2, iv xa, iv xc, iv 1, iv xb, iv xd] [(.int 1)]) (fun _ kt => zI X hx hby d13_55 rfl rfl (zY X hx hby d13_56 rfl rfl (flt (by decide)).2.1 (pc' := 61) rfl (zI X hx hby d13_61 rfl rfl (zI X hx hby d13_62 rfl rfl (zN X hx hby d13_63 rfl rfl (tlt (by decide)).2.2.2 (zK X hx hby d13_66 rfl kt)))))) ?_
    exact oRetI X hx hlk hret (hb hby d13_67) (by rw [e0]; exact ⟨(by show _ = some (Value.int (oRef (2 : Int32) xa xc (1 : Int32) xb xd)); simp [oRef, hc11, e_1, e_2, e_3, e_4, e_5, e_6, e_7, e_8, e_9]), rfl, K⟩) (by decide) (by decide)
  · refine oWk.to (mkF m 14 #[iv 2, iv xa, iv xc, iv 1, iv xb, iv xd] []) (fun _ kt => zN X hx hby d13_11 rfl rfl (feq hc11).1 kt) ?_
    refine oWk.to (mkF m 17 #[iv 2, iv xa, iv xc, iv 1, iv xb, iv xd] [(.int xb), (.int xa)]) (fun _ kt => zI X hx hby d13_14 rfl rfl (zJ X hx hby d13_15 rfl rfl kt)) ?_
    by_cases hc17 : xa < xb
    · refine oWk.to (mkF m 20 #[iv 2, iv xa, iv xc, iv 1, iv xb, iv xd] []) (fun _ kt => zN X hx hby d13_17 rfl rfl (tlt hc17).2.1 kt) ?_
      refine oWk.to (mkF m 25 #[iv 2, iv xa, iv xc, iv 1, iv xb, iv xd] [(.int (-1 : Int32))]) (fun _ kt => zK X hx hby d13_20 rfl (zG X hx hby d13_21 rfl (pc' := 25) rfl kt)) ?_
      exact oRetI X hx hlk hret (hb hby d13_25) (by rw [e0]; exact ⟨(by show _ = some (Value.int (oRef (2 : Int32) xa xc (1 : Int32) xb xd)); simp [oRef, hc11, hc17, e_1, e_2, e_3, e_4, e_5, e_6, e_7, e_8, e_9]), rfl, K⟩) (by decide) (by decide)
    · refine oWk.to (mkF m 24 #[iv 2, iv xa, iv xc, iv 1, iv xb, iv xd] []) (fun _ kt => zY X hx hby d13_17 rfl rfl (flt hc17).2.1 (pc' := 24) rfl kt) ?_
      refine oWk.to (mkF m 25 #[iv 2, iv xa, iv xc, iv 1, iv xb, iv xd] [(.int 1)]) (fun _ kt => zK X hx hby d13_24 rfl kt) ?_
      exact oRetI X hx hlk hret (hb hby d13_25) (by rw [e0]; exact ⟨(by show _ = some (Value.int (oRef (2 : Int32) xa xc (1 : Int32) xb xd)); simp [oRef, hc11, hc17, e_1, e_2, e_3, e_4, e_5, e_6, e_7, e_8, e_9]), rfl, K⟩) (by decide) (by decide)
theorem d13_36 : decode method_6_code 36 = .ok (.iload_n 2, 1) := by decide +kernel
theorem d13_37 : decode method_6_code 37 = .ok (.iload 5, 2) := by decide +kernel
theorem d13_39 : decode method_6_code 39 = .ok (.if_icmp .eq 15, 3) := by decide +kernel
theorem d13_42 : decode method_6_code 42 = .ok (.iload_n 2, 1) := by decide +kernel
theorem d13_43 : decode method_6_code 43 = .ok (.iload 5, 2) := by decide +kernel
theorem d13_45 : decode method_6_code 45 = .ok (.if_icmp .ge 7, 3) := by decide +kernel
theorem d13_48 : decode method_6_code 48 = .ok (.iconst (-1), 1) := by decide +kernel
theorem d13_49 : decode method_6_code 49 = .ok (.goto 4, 3) := by decide +kernel
theorem d13_53 : decode method_6_code 53 = .ok (.ireturn, 1) := by decide +kernel
theorem d13_52 : decode method_6_code 52 = .ok (.iconst 1, 1) := by decide +kernel
theorem rRef_2_2 (l : Launch) (Z : State) (a0 : Array Value) (hw : oHW a0 Z) (ws : List Jvm.Cond) (xa xc xb xd : Int32) (h0 : Heap) (O0 : Ext Z.heap h0)  :
    oCon l Z yy30 method_6_code 6 (some .int) ws ({ frames := 0, cells := 0, slots := 0, locals := 0 } : Room) #[(.int (2 : Int32)), (.int xa), (.int xc), (.int (2 : Int32)), (.int xb), (.int xd)] h0 (oPq (some (.int (oRef (2 : Int32) xa xc (2 : Int32) xb xd))) h0) := by
  refine oCon.of (plainFor_of_name pn_7) ?_
  intro p e s m below meth c T X hx hby hml hown hnm hret hlk hZ e0
  have hml : c.maxLocals = 6 := hml
  have K : oKp h0 h0 [] [] := oKp.nil _ _
  refine oWk.cast (g' := (mkF m 0 #[iv 2, iv xa, iv xc, iv 2, iv xb, iv xd] [])) (by first | rfl | (simp [entryFrame, mkF, argsToLocals, Value.category]; done)) ?_
  obtain ⟨e_1, e_2, e_3, e_4, e_5, e_6, e_7, e_8, e_9⟩ := oE9
  refine oWk.to (mkF m 11 #[iv 2, iv xa, iv xc, iv 2, iv xb, iv xd] [(.int xb), (.int xa)]) (fun _ kt => zI X hx hby d13_0 rfl rfl (zH X hx hby d13_1 rfl rfl ((if0 _ _).trans (tlt (by decide)).2.2.2) (zI X hx hby d13_4 rfl rfl (zH X hx hby d13_5 rfl rfl ((if0 _ _).trans (tlt (by decide)).2.2.2) (zI X hx hby d13_8 rfl rfl (zJ X hx hby d13_9 rfl rfl kt)))))) ?_
  by_cases hc11 : xa = xb
  · refine oWk.to (mkF m 26 #[iv 2, iv xa, iv xc, iv 2, iv xb, iv xd] []) (fun _ kt => zY X hx hby d13_11 rfl rfl (teq hc11).1 (pc' := 26) rfl kt) ?_
    refine oWk.to (mkF m 37 #[iv 2, iv xa, iv xc, iv 2, iv xb, iv xd] [(.int xc)]) (fun _ kt => zI X hx hby d13_26 rfl rfl (zK X hx hby d13_27 rfl (zN X hx hby d13_28 rfl rfl (tlt (by decide)).2.2.2 (zI X hx hby d13_31 rfl rfl (zK X hx hby d13_32 rfl (zN X hx hby d13_33 rfl rfl (tlt (by decide)).2.2.2 (zI X hx hby d13_36 rfl rfl kt))))))) ?_
    refine oWk.to (mkF m 39 #[iv 2, iv xa, iv xc, iv 2, iv xb, iv xd] [(.int xd), (.int xc)]) (fun _ kt => zJ X hx hby d13_37 rfl rfl kt) ?_
    by_cases hc39 : xc = xd
    · refine oWk.to (mkF m 54 #[iv 2, iv xa, iv xc, iv 2, iv xb, iv xd] []) (fun _ kt => zY X hx hby d13_39 rfl rfl (teq hc39).1 (pc' := 54) rfl kt) ?_
      refine oWk.to (mkF m 69 #[iv 2, iv xa, iv xc, iv 2, iv xb, iv xd] [(.int 0)]) (fun _ kt => zI X hx hby d13_54 rfl rfl (zI X hx hby d13_55 rfl rfl (zY X hx hby d13_56 rfl rfl (flt (by decide)).2.1 (pc' := 61) rfl (zI X hx hby d13_61 rfl rfl (zI X hx hby d13_62 rfl rfl (zY X hx hby d13_63 rfl rfl (flt (by decide)).2.2.2 (pc' := 68) rfl (zK X hx hby d13_68 rfl kt))))))) ?_
      exact oRetI X hx hlk hret (hb hby d13_69) (by rw [e0]; exact ⟨(by show _ = some (Value.int (oRef (2 : Int32) xa xc (2 : Int32) xb xd)); simp [oRef, hc11, hc39, e_1, e_2, e_3, e_4, e_5, e_6, e_7, e_8, e_9]), rfl, K⟩) (by decide) (by decide)
    · refine oWk.to (mkF m 42 #[iv 2, iv xa, iv xc, iv 2, iv xb, iv xd] []) (fun _ kt => zN X hx hby d13_39 rfl rfl (feq hc39).1 kt) ?_
      refine oWk.to (mkF m 45 #[iv 2, iv xa, iv xc, iv 2, iv xb, iv xd] [(.int xd), (.int xc)]) (fun _ kt => zI X hx hby d13_42 rfl rfl (zJ X hx hby d13_43 rfl rfl kt)) ?_
      by_cases hc45 : xc < xd
      · refine oWk.to (mkF m 48 #[iv 2, iv xa, iv xc, iv 2, iv xb, iv xd] []) (fun _ kt => zN X hx hby d13_45 rfl rfl (tlt hc45).2.1 kt) ?_
        refine oWk.to (mkF m 53 #[iv 2, iv xa, iv xc, iv 2, iv xb, iv xd] [(.int (-1 : Int32))]) (fun _ kt => zK X hx hby d13_48 rfl (zG X hx hby d13_49 rfl (pc' := 53) rfl kt)) ?_
        exact oRetI X hx hlk hret (hb hby d13_53) (by rw [e0]; exact ⟨(by show _ = some (Value.int (oRef (2 : Int32) xa xc (2 : Int32) xb xd)); simp [oRef, hc11, hc39, hc45, e_1, e_2, e_3, e_4, e_5, e_6, e_7, e_8, e_9]), rfl, K⟩) (by decide) (by decide)
      · refine oWk.to (mkF m 52 #[iv 2, iv xa, iv xc, iv 2, iv xb, iv xd] []) (fun _ kt => zY X hx hby d13_45 rfl rfl (flt hc45).2.1 (pc' := 52) rfl kt) ?_
        refine oWk.to (mkF m 53 #[iv 2, iv xa, iv xc, iv 2, iv xb, iv xd] [(.int 1)]) (fun _ kt => zK X hx hby d13_52 rfl kt) ?_
        exact oRetI X hx hlk hret (hb hby d13_53) (by rw [e0]; exact ⟨(by show _ = some (Value.int (oRef (2 : Int32) xa xc (2 : Int32) xb xd)); simp [oRef, hc11, hc39, hc45, e_1, e_2, e_3, e_4, e_5, e_6, e_7, e_8, e_9]), rfl, K⟩) (by decide) (by decide)
  · refine oWk.to (mkF m 14 #[iv 2, iv xa, iv xc, iv 2, iv xb, iv xd] []) (fun _ kt => zN X hx hby d13_11 rfl rfl (feq hc11).1 kt) ?_
    refine oWk.to (mkF m 17 #[iv 2, iv xa, iv xc, iv 2, iv xb, iv xd] [(.int xb), (.int xa)]) (fun _ kt => zI X hx hby d13_14 rfl rfl (zJ X hx hby d13_15 rfl rfl kt)) ?_
    by_cases hc17 : xa < xb
    · refine oWk.to (mkF m 20 #[iv 2, iv xa, iv xc, iv 2, iv xb, iv xd] []) (fun _ kt => zN X hx hby d13_17 rfl rfl (tlt hc17).2.1 kt) ?_
      refine oWk.to (mkF m 25 #[iv 2, iv xa, iv xc, iv 2, iv xb, iv xd] [(.int (-1 : Int32))]) (fun _ kt => zK X hx hby d13_20 rfl (zG X hx hby d13_21 rfl (pc' := 25) rfl kt)) ?_
      exact oRetI X hx hlk hret (hb hby d13_25) (by rw [e0]; exact ⟨(by show _ = some (Value.int (oRef (2 : Int32) xa xc (2 : Int32) xb xd)); simp [oRef, hc11, hc17, e_1, e_2, e_3, e_4, e_5, e_6, e_7, e_8, e_9]), rfl, K⟩) (by decide) (by decide)
    · refine oWk.to (mkF m 24 #[iv 2, iv xa, iv xc, iv 2, iv xb, iv xd] []) (fun _ kt => zY X hx hby d13_17 rfl rfl (flt hc17).2.1 (pc' := 24) rfl kt) ?_
      refine oWk.to (mkF m 25 #[iv 2, iv xa, iv xc, iv 2, iv xb, iv xd] [(.int 1)]) (fun _ kt => zK X hx hby d13_24 rfl kt) ?_
      exact oRetI X hx hlk hret (hb hby d13_25) (by rw [e0]; exact ⟨(by show _ = some (Value.int (oRef (2 : Int32) xa xc (2 : Int32) xb xd)); simp [oRef, hc11, hc17, e_1, e_2, e_3, e_4, e_5, e_6, e_7, e_8, e_9]), rfl, K⟩) (by decide) (by decide)
def Q_rLaw (Z : State) (p0 p1 p2 p3 p4 : Int32) (xfm : Value) (xz : Int32) (h0 : Heap) (v : Option Value) (h : Heap) (L : List Loc) : Prop := v = some (.int (1 : Int32)) ∧ Fr h0.size L
theorem pd_21 : parseMethodDescriptor "(III)I" = some ⟨[.int, .int, .int], some .int⟩ := by decide +kernel
theorem cs27 {a0 : Array Value} {Z : State} (hw : oHW a0 Z) : oCall Z Y7 (.invokestatic 13) yy28 method_4_code 3 (some .int) (oRs 3) := oCall.stat (oW hw 7 rfl) (oW hw 8 rfl) (oW hw 2 rfl) (oW hw 9 rfl) (by decide) pd_21
theorem pd_22 : parseMethodDescriptor "(III)Ljava/lang/String;" = some ⟨[.int, .int, .int], some (.object "java/lang/String")⟩ := by decide +kernel
theorem pd_23 : parseMethodDescriptor "(Ljava/lang/String;Ljava/lang/String;)I" = some ⟨[(.object "java/lang/String"), (.object "java/lang/String")], some .int⟩ := by decide +kernel
theorem cs28 {a0 : Array Value} {Z : State} (hw : oHW a0 Z) : oCall Z Y7 (.invokestatic 21) yy15 prog_39_method_2_code 7 (some .int) (oRs 2) := oCall.stat (oW hw 35 rfl) (oW hw 36 rfl) (oW hw 37 rfl) (oW hw 38 rfl) (by decide) pd_23
theorem cs29 {a0 : Array Value} {Z : State} (hw : oHW a0 Z) : oCall Z Y7 (.invokestatic 27) yy29 method_5_code 1 (some .int) (oRs 1) := oCall.stat (oW hw 58 rfl) (oW hw 59 rfl) (oW hw 2 rfl) (oW hw 60 rfl) (by decide) pd_16
theorem pd_24 : parseMethodDescriptor "(IIIIII)I" = some ⟨[.int, .int, .int, .int, .int, .int], some .int⟩ := by decide +kernel
theorem cs30 {a0 : Array Value} {Z : State} (hw : oHW a0 Z) : oCall Z Y7 (.invokestatic 30) yy30 method_6_code 6 (some .int) (oRs 6) := oCall.stat (oW hw 61 rfl) (oW hw 62 rfl) (oW hw 2 rfl) (oW hw 63 rfl) (by decide) pd_24
theorem cs31 {a0 : Array Value} {Z : State} (hw : oHW a0 Z) : oCall Z Y7 (.invokestatic 17) yy26 method_8_code 5 (some (.object Y0)) (oRs 3) := oCall.stat (oW hw 10 rfl) (oW hw 11 rfl) (oW hw 2 rfl) (oW hw 12 rfl) (by decide) pd_22
theorem rLaw (l : Launch) (Z : State) (a0 : Array Value) (hw : oHW a0 Z) (ws : List Jvm.Cond) (p0 p1 p2 p3 p4 : Int32) (xfm : Value) (xz : Int32) (h0 : Heap) (O0 : Ext Z.heap h0) (S_Z : Sta Z Z.heap Y0 Y2 "Z" (.int xz)) (hz : ¬ xz = (0 : Int32)) (S_A : Sta Z Z.heap Y1 Y3 "Z" (.int (1 : Int32))) (S_H : Sta Z Z.heap Y1 "HI_BYTE_SHIFT" "I" (.int (0 : Int32))) (S_L : Sta Z Z.heap Y1 "LO_BYTE_SHIFT" "I" (.int (8 : Int32))) (S_F : Sta Z Z.heap Y4 Y5 Y6 xfm) (hcat : xfm.category = 1) :
    oConH l Z oEL x code maxLocals ret ws room_1 #[(.int p0), (.int p1), (.int p2), (.int p3), (.int p4)] h0 [] (Q_rLaw Z p0 p1 p2 p3 p4 xfm xz h0) := by
  refine oConH.of (plainFor_of_name pn_7) ?_
  intro p e s m below meth c T vm X hx hby hml hown hnm hret hlk hZ e0 B hsf
  have hml : c.maxLocals = 14 := hml
  have K : oKp h0 h0 [] [] := oKp.nil _ _
  refine oWk.cast (g' := (mkF m 0 #[iv p0, iv p1, iv p2, iv p3, iv p4, uu, uu, uu, uu, uu, uu, uu, uu, uu] [])) (by first | rfl | (simp [entryFrame, mkF, argsToLocals, Value.category, maxLocals]; done)) ?_
  refine oWk.to (mkF m 6 #[iv p0, iv p1, iv p2, iv p3, iv p4, uu, uu, uu, uu, uu, uu, uu, uu, uu] [(.int ((p4 &&& (3 : Int32)) % (3 : Int32)))]) (fun _ kt => zJ X hx hby at_0 rfl rfl (zK X hx hby at_2 rfl (XS.iand X.here hx rfl (hb hby at_3) rfl (zK X hx hby at_4 rfl (iremM X hx rfl (hb hby at_5) rfl (by decide) kt))))) ?_
  generalize hn1e : ((p4 &&& (3 : Int32)) % (3 : Int32)) = n1
  show oWk _ _ _ _ T (mkF m 6 #[iv p0, iv p1, iv p2, iv p3, iv p4, uu, uu, uu, uu, uu, uu, uu, uu, uu] [(.int n1)])
  have hn1 := oLn3 p4
  rw [hn1e] at hn1
  refine oWk.to (mkF m 16 #[iv p0, iv p1, iv p2, iv p3, iv p4, iv n1, uu, uu, uu, uu, uu, uu, uu, uu] [(.int 3), (.int (((p4.toUInt32 >>> ((6 : Int32) &&& 31).toUInt32).toInt32) &&& (3 : Int32)))]) (fun _ kt => zS X hx hby at_6 rfl rfl (l' := #[iv p0, iv p1, iv p2, iv p3, iv p4, iv n1, uu, uu, uu, uu, uu, uu, uu, uu]) rfl (zJ X hx hby at_8 rfl rfl (zL X hx hby at_10 rfl (XS.iushr X.here hx rfl (hb hby at_12) rfl (zK X hx hby at_13 rfl (XS.iand X.here hx rfl (hb hby at_14) rfl (zK X hx hby at_15 rfl kt))))))) ?_
  refine oWk.to (mkF m 17 #[iv p0, iv p1, iv p2, iv p3, iv p4, iv n1, uu, uu, uu, uu, uu, uu, uu, uu] [(.int ((((p4.toUInt32 >>> ((6 : Int32) &&& 31).toUInt32).toInt32) &&& (3 : Int32)) % (3 : Int32)))]) (fun _ kt => iremM X hx rfl (hb hby at_16) rfl (by decide) kt) ?_
  generalize hn2e : ((((p4.toUInt32 >>> ((6 : Int32) &&& 31).toUInt32).toInt32) &&& (3 : Int32)) % (3 : Int32)) = n2
  show oWk _ _ _ _ T (mkF m 17 #[iv p0, iv p1, iv p2, iv p3, iv p4, iv n1, uu, uu, uu, uu, uu, uu, uu, uu] [(.int n2)])
  have hn2 := oLn3 ((p4.toUInt32 >>> ((6 : Int32) &&& 31).toUInt32).toInt32)
  rw [hn2e] at hn2
  refine oWk.st (fun _ kt => zS X hx hby at_17 rfl rfl (l' := #[iv p0, iv p1, iv p2, iv p3, iv p4, iv n1, iv n2, uu, uu, uu, uu, uu, uu, uu]) rfl (zI X hx hby at_19 rfl rfl kt)) ?_
  have Oh := K.old O0 all0
  obtain ⟨_, T, hq, Lc2, X, e0, hQ, st⟩ := (cs26 hw).run X hx hZ hown e0 (A := [(.int p0)]) rfl (rCp l Z a0 hw [] p0 h0 Oh ) (W := 0) (by decide) hml (Ls := #[iv p0, iv p1, iv p2, iv p3, iv p4, iv n1, iv n2, uu, uu, uu, uu, uu, uu, uu]) rfl (rest := []) rfl rfl hby at_20
  obtain ⟨a1, rfl, e1, K1, hcp1⟩ := hQ
  rw [e1] at e0 K1
  have K := K.call K1 all0
  have cp_a1 := hcp1
  refine oWk.st (fun _ kt => st _ (zS X hx hby at_23 rfl rfl (l' := #[iv p0, iv p1, iv p2, iv p3, iv p4, iv n1, iv n2, iv a1, uu, uu, uu, uu, uu, uu]) rfl (zI X hx hby at_25 rfl rfl kt))) ?_
  obtain ⟨_, T, hq, Lc4, X, e0, hQ, st⟩ := (cs26 hw).run X hx hZ hown e0 (A := [(.int p1)]) rfl (rCp l Z a0 hw [] p1 h0 Oh ) (W := 0) (by decide) hml (Ls := #[iv p0, iv p1, iv p2, iv p3, iv p4, iv n1, iv n2, iv a1, uu, uu, uu, uu, uu, uu]) rfl (rest := []) rfl rfl hby at_26
  obtain ⟨a2, rfl, e1, K3, hcp3⟩ := hQ
  rw [e1] at e0 K3
  have K := K.call K3 all0
  have cp_a2 := hcp3
  refine oWk.to (mkF m 37 #[iv p0, iv p1, iv p2, iv p3, iv p4, iv n1, iv n2, iv a1, iv a2, uu, uu, uu, uu, uu] [(.int (((p4.toUInt32 >>> ((2 : Int32) &&& 31).toUInt32).toInt32) &&& (3 : Int32)))]) (fun _ kt => st _ (zS X hx hby at_29 rfl rfl (l' := #[iv p0, iv p1, iv p2, iv p3, iv p4, iv n1, iv n2, iv a1, iv a2, uu, uu, uu, uu, uu]) rfl (zJ X hx hby at_31 rfl rfl (zK X hx hby at_33 rfl (XS.iushr X.here hx rfl (hb hby at_34) rfl (zK X hx hby at_35 rfl (XS.iand X.here hx rfl (hb hby at_36) rfl kt))))))) ?_
  refine oWk.st (fun _ kt => zJ X hx hby at_37 rfl rfl (zI X hx hby at_39 rfl rfl kt)) ?_
  obtain ⟨_, T, hq, Lc6, X, e0, hQ, st⟩ := (cs27 hw).run X hx hZ hown e0 (A := [(.int (((p4.toUInt32 >>> ((2 : Int32) &&& 31).toUInt32).toInt32) &&& (3 : Int32))), (.int a1), (.int p2)]) rfl (rPick l Z a0 hw [] (((p4.toUInt32 >>> ((2 : Int32) &&& 31).toUInt32).toInt32) &&& (3 : Int32)) a1 p2 h0 Oh cp_a1) (W := 0) (by decide) hml (Ls := #[iv p0, iv p1, iv p2, iv p3, iv p4, iv n1, iv n2, iv a1, iv a2, uu, uu, uu, uu, uu]) rfl (rest := []) rfl rfl hby at_40
  obtain ⟨b1, rfl, e1, K5, hcp5⟩ := hQ
  rw [e1] at e0 K5
  have K := K.call K5 all0
  have cp_b1 := hcp5
  refine oWk.to (mkF m 51 #[iv p0, iv p1, iv p2, iv p3, iv p4, iv n1, iv n2, iv a1, iv a2, iv b1, uu, uu, uu, uu] [(.int (((p4.toUInt32 >>> ((4 : Int32) &&& 31).toUInt32).toInt32) &&& (3 : Int32)))]) (fun _ kt => st _ (zS X hx hby at_43 rfl rfl (l' := #[iv p0, iv p1, iv p2, iv p3, iv p4, iv n1, iv n2, iv a1, iv a2, iv b1, uu, uu, uu, uu]) rfl (zJ X hx hby at_45 rfl rfl (zK X hx hby at_47 rfl (XS.iushr X.here hx rfl (hb hby at_48) rfl (zK X hx hby at_49 rfl (XS.iand X.here hx rfl (hb hby at_50) rfl kt))))))) ?_
  refine oWk.st (fun _ kt => zJ X hx hby at_51 rfl rfl (zI X hx hby at_53 rfl rfl kt)) ?_
  obtain ⟨_, T, hq, Lc8, X, e0, hQ, st⟩ := (cs27 hw).run X hx hZ hown e0 (A := [(.int (((p4.toUInt32 >>> ((4 : Int32) &&& 31).toUInt32).toInt32) &&& (3 : Int32))), (.int a2), (.int p3)]) rfl (rPick l Z a0 hw [] (((p4.toUInt32 >>> ((4 : Int32) &&& 31).toUInt32).toInt32) &&& (3 : Int32)) a2 p3 h0 Oh cp_a2) (W := 0) (by decide) hml (Ls := #[iv p0, iv p1, iv p2, iv p3, iv p4, iv n1, iv n2, iv a1, iv a2, iv b1, uu, uu, uu, uu]) rfl (rest := []) rfl rfl hby at_54
  obtain ⟨b2, rfl, e1, K7, hcp7⟩ := hQ
  rw [e1] at e0 K7
  have K := K.call K7 all0
  have cp_b2 := hcp7
  refine oWk.to (mkF m 59 #[iv p0, iv p1, iv p2, iv p3, iv p4, iv n1, iv n2, iv a1, iv a2, iv b1, iv b2, uu, uu, uu] []) (fun _ kt => st _ (zS X hx hby at_57 rfl rfl (l' := #[iv p0, iv p1, iv p2, iv p3, iv p4, iv n1, iv n2, iv a1, iv a2, iv b1, iv b2, uu, uu, uu]) rfl kt)) ?_
  rcases hn1 with rfl | rfl | rfl
  · show oWk _ _ _ _ T (mkF m 59 #[iv p0, iv p1, iv p2, iv p3, iv p4, iv 0, iv n2, iv a1, iv a2, iv b1, iv b2, uu, uu, uu] [])
    rcases hn2 with rfl | rfl | rfl
    · show oWk _ _ _ _ T (mkF m 59 #[iv p0, iv p1, iv p2, iv p3, iv p4, iv 0, iv 0, iv a1, iv a2, iv b1, iv b2, uu, uu, uu] [])
      refine oWk.st (fun _ kt => zJ X hx hby at_59 rfl rfl (zJ X hx hby at_61 rfl rfl (zJ X hx hby at_63 rfl rfl kt))) ?_
      obtain ⟨_, _, ⟨T, L10, k10, n10⟩, -, X, hS, hgr, ⟨Lc10, hQ, l10, y10, z10, C⟩, st⟩ := callSS X hx (y := yy26) hown (mvT hZ (oW hw 10 rfl)) (mvT hZ (oW hw 11 rfl)) (mvT hZ (oW hw 2 rfl)) (mvT hZ (oW hw 12 rfl)) (by decide) (oBackH (W := 0) (rSt_0 l Z a0 hw [] a1 a2 xz h0 Oh S_Z hz S_A S_H S_L) hZ (oW hw 12 rfl) (oW hw 2 rfl) (by decide) (by decide) (oELw hw) B.2.1 all0) (g := (mkF m 65 #[iv p0, iv p1, iv p2, iv p3, iv p4, iv 0, iv 0, iv a1, iv a2, iv b1, iv b2, uu, uu, uu] [(.int a2), (.int a1), (.int 0)])) rfl (by rw [hml]; rfl) (argsL := [(.int (0 : Int32)), (.int a1), (.int a2)]) (rest := []) (lenOf pd_22 rfl) rfl (Nat.le_of_eq rfl) (hb hby at_65) (fun _ _ => ⟨rfl, e0, (by decide : 0 + 7 ≤ _), (by decide : 0 + 16 ≤ _)⟩)
      dsimp only [Pt.U, Pt.locs, Pt.cells, Pt.slots] at X l10 y10 z10 st hQ C hS hgr
      subst l10 y10 z10
      have X : Stand p l e _ (s.setVm T.vm) m _ below meth c T _ _ _ := X
      obtain ⟨h, e2⟩ : ∃ z, T.heap = z := ⟨_, rfl⟩
      have B := B.call e0 hS hgr C e2
      obtain ⟨hZ, hown⟩ := oWide hZ hown hS
      rw [e2] at hQ C
      have e0 := e2
      obtain ⟨s1, rfl, K9, gn_s1, T_s1⟩ := hQ
      have ge_s1 := Nat.le_trans K.le gn_s1
      have K := K.call K9 all0
      refine oWk.st (fun _ kt => st.trans (zT X hx hby at_68 rfl rfl rfl (l' := #[iv p0, iv p1, iv p2, iv p3, iv p4, iv 0, iv 0, iv a1, iv a2, iv b1, iv b2, rv s1, uu, uu]) rfl (zJ X hx hby at_70 rfl rfl (zJ X hx hby at_72 rfl rfl (zJ X hx hby at_74 rfl rfl kt))))) ?_
      have lt_s1 := T_s1.lt
      have Oh := K.old O0 all0
      obtain ⟨_, _, ⟨T, L12, k12, n12⟩, -, X, hS, hgr, ⟨Lc12, hQ, l12, y12, z12, C⟩, st⟩ := callSS X hx (y := yy26) hown (mvT hZ (oW hw 10 rfl)) (mvT hZ (oW hw 11 rfl)) (mvT hZ (oW hw 2 rfl)) (mvT hZ (oW hw 12 rfl)) (by decide) (oBackH (W := 0) (rSt_0 l Z a0 hw [] b1 b2 xz h Oh S_Z hz S_A S_H S_L) hZ (oW hw 12 rfl) (oW hw 2 rfl) (by decide) (by decide) (oELw hw) B.2.1 all0) (g := (mkF m 76 #[iv p0, iv p1, iv p2, iv p3, iv p4, iv 0, iv 0, iv a1, iv a2, iv b1, iv b2, rv s1, uu, uu] [(.int b2), (.int b1), (.int 0)])) rfl (by rw [hml]; rfl) (argsL := [(.int (0 : Int32)), (.int b1), (.int b2)]) (rest := []) (lenOf pd_22 rfl) rfl (Nat.le_of_eq rfl) (hb hby at_76) (fun _ _ => ⟨rfl, e0, (by decide : 7 + 7 ≤ _), (by decide : 16 + 16 ≤ _)⟩)
      dsimp only [Pt.U, Pt.locs, Pt.cells, Pt.slots] at X l12 y12 z12 st hQ C hS hgr
      subst l12 y12 z12
      have X : Stand p l e _ (s.setVm T.vm) m _ below meth c T _ _ _ := X
      obtain ⟨h, e2⟩ : ∃ z, T.heap = z := ⟨_, rfl⟩
      have B := B.call e0 hS hgr C e2
      obtain ⟨hZ, hown⟩ := oWide hZ hown hS
      rw [e2] at hQ C
      have e0 := e2
      obtain ⟨s2, rfl, K11, gn_s2, T_s2⟩ := hQ
      have ge_s2 := Nat.le_trans K.le gn_s2
      have ne_s1_s2 : s1 ≠ s2 := Nat.ne_of_lt (Nat.lt_of_lt_of_le lt_s1 gn_s2)
      have K := K.call K11 all0
      refine oWk.st (fun _ kt => st.trans (zT X hx hby at_79 rfl rfl rfl (l' := #[iv p0, iv p1, iv p2, iv p3, iv p4, iv 0, iv 0, iv a1, iv a2, iv b1, iv b2, rv s1, rv s2, uu]) rfl (zB X hx hby at_81 rfl rfl rfl (zB X hx hby at_83 rfl rfl rfl kt)))) ?_
      have T_s1 := (T_s1.keep0 K11.1)
      have Oh := K.old O0 all0
      obtain ⟨T, L14, X, e0, K, st⟩ := (cs28 hw).pure X hx hZ hown e0 K (A := [(.ref s1), (.ref s2)]) rfl (rCmpT l Z a0 hw [] s1 s2 xfm xz (oSO 0 a1 a2) (oSO 0 b1 b2) h Oh S_Z hz S_A S_H S_L S_F hcat T_s1 T_s2 (oSOl _ _ _) (oSOl _ _ _)) (W := 0) (by decide) hml (Ls := #[iv p0, iv p1, iv p2, iv p3, iv p4, iv 0, iv 0, iv a1, iv a2, iv b1, iv b2, rv s1, rv s2, uu]) rfl (rest := []) rfl rfl hby at_85
      refine oWk.st (fun _ kt => st _ (zS X hx hby at_88 rfl rfl (l' := #[iv p0, iv p1, iv p2, iv p3, iv p4, iv 0, iv 0, iv a1, iv a2, iv b1, iv b2, rv s1, rv s2, iv (oCmpL (oSO 0 a1 a2) (oSO 0 b1 b2))]) rfl (zJ X hx hby at_90 rfl rfl kt))) ?_
      obtain ⟨T, L16, X, e0, K, st⟩ := (cs29 hw).pure X hx hZ hown e0 K (A := [(.int (oCmpL (oSO 0 a1 a2) (oSO 0 b1 b2)))]) rfl (rSgn l Z a0 hw [] (oCmpL (oSO 0 a1 a2) (oSO 0 b1 b2)) h Oh ) (W := 0) (by decide) hml (Ls := #[iv p0, iv p1, iv p2, iv p3, iv p4, iv 0, iv 0, iv a1, iv a2, iv b1, iv b2, rv s1, rv s2, iv (oCmpL (oSO 0 a1 a2) (oSO 0 b1 b2))]) rfl (rest := []) rfl rfl hby at_92
      refine oWk.to (mkF m 107 #[iv p0, iv p1, iv p2, iv p3, iv p4, iv 0, iv 0, iv a1, iv a2, iv b1, iv b2, rv s1, rv s2, iv (oCmpL (oSO 0 a1 a2) (oSO 0 b1 b2))] [(.int b2), (.int b1), (.int 0), (.int a2), (.int a1), (.int 0), (.int (oSgn (oCmpL (oSO 0 a1 a2) (oSO 0 b1 b2))))]) (fun _ kt => st _ (zJ X hx hby at_95 rfl rfl (zJ X hx hby at_97 rfl rfl (zJ X hx hby at_99 rfl rfl (zJ X hx hby at_101 rfl rfl (zJ X hx hby at_103 rfl rfl (zJ X hx hby at_105 rfl rfl kt))))))) ?_
      obtain ⟨T, L18, X, e0, K, st⟩ := (cs30 hw).pure X hx hZ hown e0 K (A := [(.int (0 : Int32)), (.int a1), (.int a2), (.int (0 : Int32)), (.int b1), (.int b2)]) rfl (rRef_0_0 l Z a0 hw [] a1 a2 b1 b2 h Oh ) (W := 1) (by decide) hml (Ls := #[iv p0, iv p1, iv p2, iv p3, iv p4, iv 0, iv 0, iv a1, iv a2, iv b1, iv b2, rv s1, rv s2, iv (oCmpL (oSO 0 a1 a2) (oSO 0 b1 b2))]) rfl (rest := [(.int (oSgn (oCmpL (oSO 0 a1 a2) (oSO 0 b1 b2))))]) rfl rfl hby at_107
      refine oWk.to (mkF m 110 #[iv p0, iv p1, iv p2, iv p3, iv p4, iv 0, iv 0, iv a1, iv a2, iv b1, iv b2, rv s1, rv s2, iv (oCmpL (oSO 0 a1 a2) (oSO 0 b1 b2))] [(.int (oRef (0 : Int32) a1 a2 (0 : Int32) b1 b2)), (.int (oSgn (oCmpL (oSO 0 a1 a2) (oSO 0 b1 b2))))]) (fun _ kt => st _ kt) ?_
      refine oWk.to (mkF m 118 #[iv p0, iv p1, iv p2, iv p3, iv p4, iv 0, iv 0, iv a1, iv a2, iv b1, iv b2, rv s1, rv s2, iv (oCmpL (oSO 0 a1 a2) (oSO 0 b1 b2))] [(.int 1)]) (fun _ kt => zN X hx hby at_110 rfl rfl (teq (oThm 0 0 (by decide) (by decide) cp_a1 cp_a2 cp_b1 cp_b2)).2 (zK X hx hby at_113 rfl (zG X hx hby at_114 rfl (pc' := 118) rfl kt))) ?_
      exact oRetH X hx hlk hZ (oELw hw) e0 B hret (oNar01 (Or.inr rfl)) (Or.inl ⟨rfl, Or.inr (Or.inl rfl), _, rfl⟩) (hb hby at_118) (by rw [e0]; exact ⟨rfl, K.fr⟩) (by decide) (by decide)
    · show oWk _ _ _ _ T (mkF m 59 #[iv p0, iv p1, iv p2, iv p3, iv p4, iv 0, iv 1, iv a1, iv a2, iv b1, iv b2, uu, uu, uu] [])
      refine oWk.st (fun _ kt => zJ X hx hby at_59 rfl rfl (zJ X hx hby at_61 rfl rfl (zJ X hx hby at_63 rfl rfl kt))) ?_
      obtain ⟨_, _, ⟨T, L20, k20, n20⟩, -, X, hS, hgr, ⟨Lc20, hQ, l20, y20, z20, C⟩, st⟩ := callSS X hx (y := yy26) hown (mvT hZ (oW hw 10 rfl)) (mvT hZ (oW hw 11 rfl)) (mvT hZ (oW hw 2 rfl)) (mvT hZ (oW hw 12 rfl)) (by decide) (oBackH (W := 0) (rSt_0 l Z a0 hw [] a1 a2 xz h0 Oh S_Z hz S_A S_H S_L) hZ (oW hw 12 rfl) (oW hw 2 rfl) (by decide) (by decide) (oELw hw) B.2.1 all0) (g := (mkF m 65 #[iv p0, iv p1, iv p2, iv p3, iv p4, iv 0, iv 1, iv a1, iv a2, iv b1, iv b2, uu, uu, uu] [(.int a2), (.int a1), (.int 0)])) rfl (by rw [hml]; rfl) (argsL := [(.int (0 : Int32)), (.int a1), (.int a2)]) (rest := []) (lenOf pd_22 rfl) rfl (Nat.le_of_eq rfl) (hb hby at_65) (fun _ _ => ⟨rfl, e0, (by decide : 0 + 7 ≤ _), (by decide : 0 + 16 ≤ _)⟩)
      dsimp only [Pt.U, Pt.locs, Pt.cells, Pt.slots] at X l20 y20 z20 st hQ C hS hgr
      subst l20 y20 z20
      have X : Stand p l e _ (s.setVm T.vm) m _ below meth c T _ _ _ := X
      obtain ⟨h, e2⟩ : ∃ z, T.heap = z := ⟨_, rfl⟩
      have B := B.call e0 hS hgr C e2
      obtain ⟨hZ, hown⟩ := oWide hZ hown hS
      rw [e2] at hQ C
      have e0 := e2
      obtain ⟨s1, rfl, K19, gn_s1, T_s1⟩ := hQ
      have ge_s1 := Nat.le_trans K.le gn_s1
      have K := K.call K19 all0
      refine oWk.st (fun _ kt => st.trans (zT X hx hby at_68 rfl rfl rfl (l' := #[iv p0, iv p1, iv p2, iv p3, iv p4, iv 0, iv 1, iv a1, iv a2, iv b1, iv b2, rv s1, uu, uu]) rfl (zJ X hx hby at_70 rfl rfl (zJ X hx hby at_72 rfl rfl (zJ X hx hby at_74 rfl rfl kt))))) ?_
      have lt_s1 := T_s1.lt
      have Oh := K.old O0 all0
      obtain ⟨_, T, h, Lc22, X, e0, hQ, st⟩ := (cs31 hw).run X hx hZ hown e0 (A := [(.int (1 : Int32)), (.int b1), (.int b2)]) rfl (rSt_1 l Z a0 hw [] b1 b2 xz h Oh S_Z hz S_A S_H S_L cp_b1) (W := 0) (by decide) hml (Ls := #[iv p0, iv p1, iv p2, iv p3, iv p4, iv 0, iv 1, iv a1, iv a2, iv b1, iv b2, rv s1, uu, uu]) rfl (rest := []) rfl rfl hby at_76
      obtain ⟨s2, rfl, K21, gn_s2, T_s2⟩ := hQ
      have ge_s2 := Nat.le_trans K.le gn_s2
      have ne_s1_s2 : s1 ≠ s2 := Nat.ne_of_lt (Nat.lt_of_lt_of_le lt_s1 gn_s2)
      have K := K.call K21 all0
      have B := B.keep K21.1 sf0
      refine oWk.st (fun _ kt => st _ (zT X hx hby at_79 rfl rfl rfl (l' := #[iv p0, iv p1, iv p2, iv p3, iv p4, iv 0, iv 1, iv a1, iv a2, iv b1, iv b2, rv s1, rv s2, uu]) rfl (zB X hx hby at_81 rfl rfl rfl (zB X hx hby at_83 rfl rfl rfl kt)))) ?_
      have T_s1 := (T_s1.keep0 K21.1)
      have Oh := K.old O0 all0
      obtain ⟨T, L24, X, e0, K, st⟩ := (cs28 hw).pure X hx hZ hown e0 K (A := [(.ref s1), (.ref s2)]) rfl (rCmpT l Z a0 hw [] s1 s2 xfm xz (oSO 0 a1 a2) (oSO 1 b1 b2) h Oh S_Z hz S_A S_H S_L S_F hcat T_s1 T_s2 (oSOl _ _ _) (oSOl _ _ _)) (W := 0) (by decide) hml (Ls := #[iv p0, iv p1, iv p2, iv p3, iv p4, iv 0, iv 1, iv a1, iv a2, iv b1, iv b2, rv s1, rv s2, uu]) rfl (rest := []) rfl rfl hby at_85
      refine oWk.st (fun _ kt => st _ (zS X hx hby at_88 rfl rfl (l' := #[iv p0, iv p1, iv p2, iv p3, iv p4, iv 0, iv 1, iv a1, iv a2, iv b1, iv b2, rv s1, rv s2, iv (oCmpL (oSO 0 a1 a2) (oSO 1 b1 b2))]) rfl (zJ X hx hby at_90 rfl rfl kt))) ?_
      obtain ⟨T, L26, X, e0, K, st⟩ := (cs29 hw).pure X hx hZ hown e0 K (A := [(.int (oCmpL (oSO 0 a1 a2) (oSO 1 b1 b2)))]) rfl (rSgn l Z a0 hw [] (oCmpL (oSO 0 a1 a2) (oSO 1 b1 b2)) h Oh ) (W := 0) (by decide) hml (Ls := #[iv p0, iv p1, iv p2, iv p3, iv p4, iv 0, iv 1, iv a1, iv a2, iv b1, iv b2, rv s1, rv s2, iv (oCmpL (oSO 0 a1 a2) (oSO 1 b1 b2))]) rfl (rest := []) rfl rfl hby at_92
      refine oWk.to (mkF m 107 #[iv p0, iv p1, iv p2, iv p3, iv p4, iv 0, iv 1, iv a1, iv a2, iv b1, iv b2, rv s1, rv s2, iv (oCmpL (oSO 0 a1 a2) (oSO 1 b1 b2))] [(.int b2), (.int b1), (.int 1), (.int a2), (.int a1), (.int 0), (.int (oSgn (oCmpL (oSO 0 a1 a2) (oSO 1 b1 b2))))]) (fun _ kt => st _ (zJ X hx hby at_95 rfl rfl (zJ X hx hby at_97 rfl rfl (zJ X hx hby at_99 rfl rfl (zJ X hx hby at_101 rfl rfl (zJ X hx hby at_103 rfl rfl (zJ X hx hby at_105 rfl rfl kt))))))) ?_
      obtain ⟨T, L28, X, e0, K, st⟩ := (cs30 hw).pure X hx hZ hown e0 K (A := [(.int (0 : Int32)), (.int a1), (.int a2), (.int (1 : Int32)), (.int b1), (.int b2)]) rfl (rRef_0_1 l Z a0 hw [] a1 a2 b1 b2 h Oh ) (W := 1) (by decide) hml (Ls := #[iv p0, iv p1, iv p2, iv p3, iv p4, iv 0, iv 1, iv a1, iv a2, iv b1, iv b2, rv s1, rv s2, iv (oCmpL (oSO 0 a1 a2) (oSO 1 b1 b2))]) rfl (rest := [(.int (oSgn (oCmpL (oSO 0 a1 a2) (oSO 1 b1 b2))))]) rfl rfl hby at_107
      refine oWk.to (mkF m 110 #[iv p0, iv p1, iv p2, iv p3, iv p4, iv 0, iv 1, iv a1, iv a2, iv b1, iv b2, rv s1, rv s2, iv (oCmpL (oSO 0 a1 a2) (oSO 1 b1 b2))] [(.int (oRef (0 : Int32) a1 a2 (1 : Int32) b1 b2)), (.int (oSgn (oCmpL (oSO 0 a1 a2) (oSO 1 b1 b2))))]) (fun _ kt => st _ kt) ?_
      refine oWk.to (mkF m 118 #[iv p0, iv p1, iv p2, iv p3, iv p4, iv 0, iv 1, iv a1, iv a2, iv b1, iv b2, rv s1, rv s2, iv (oCmpL (oSO 0 a1 a2) (oSO 1 b1 b2))] [(.int 1)]) (fun _ kt => zN X hx hby at_110 rfl rfl (teq (oThm 0 1 (by decide) (by decide) cp_a1 cp_a2 cp_b1 cp_b2)).2 (zK X hx hby at_113 rfl (zG X hx hby at_114 rfl (pc' := 118) rfl kt))) ?_
      exact oRetH X hx hlk hZ (oELw hw) e0 B hret (oNar01 (Or.inr rfl)) (Or.inl ⟨rfl, Or.inr (Or.inl rfl), _, rfl⟩) (hb hby at_118) (by rw [e0]; exact ⟨rfl, K.fr⟩) (by decide) (by decide)
    · show oWk _ _ _ _ T (mkF m 59 #[iv p0, iv p1, iv p2, iv p3, iv p4, iv 0, iv 2, iv a1, iv a2, iv b1, iv b2, uu, uu, uu] [])
      refine oWk.st (fun _ kt => zJ X hx hby at_59 rfl rfl (zJ X hx hby at_61 rfl rfl (zJ X hx hby at_63 rfl rfl kt))) ?_
      obtain ⟨_, _, ⟨T, L30, k30, n30⟩, -, X, hS, hgr, ⟨Lc30, hQ, l30, y30, z30, C⟩, st⟩ := callSS X hx (y := yy26) hown (mvT hZ (oW hw 10 rfl)) (mvT hZ (oW hw 11 rfl)) (mvT hZ (oW hw 2 rfl)) (mvT hZ (oW hw 12 rfl)) (by decide) (oBackH (W := 0) (rSt_0 l Z a0 hw [] a1 a2 xz h0 Oh S_Z hz S_A S_H S_L) hZ (oW hw 12 rfl) (oW hw 2 rfl) (by decide) (by decide) (oELw hw) B.2.1 all0) (g := (mkF m 65 #[iv p0, iv p1, iv p2, iv p3, iv p4, iv 0, iv 2, iv a1, iv a2, iv b1, iv b2, uu, uu, uu] [(.int a2), (.int a1), (.int 0)])) rfl (by rw [hml]; rfl) (argsL := [(.int (0 : Int32)), (.int a1), (.int a2)]) (rest := []) (lenOf pd_22 rfl) rfl (Nat.le_of_eq rfl) (hb hby at_65) (fun _ _ => ⟨rfl, e0, (by decide : 0 + 7 ≤ _), (by decide : 0 + 16 ≤ _)⟩)
      dsimp only [Pt.U, Pt.locs, Pt.cells, Pt.slots] at X l30 y30 z30 st hQ C hS hgr
      subst l30 y30 z30
      have X : Stand p l e _ (s.setVm T.vm) m _ below meth c T _ _ _ := X
      obtain ⟨h, e2⟩ : ∃ z, T.heap = z := ⟨_, rfl⟩
      have B := B.call e0 hS hgr C e2
      obtain ⟨hZ, hown⟩ := oWide hZ hown hS
      rw [e2] at hQ C
      have e0 := e2
      obtain ⟨s1, rfl, K29, gn_s1, T_s1⟩ := hQ
      have ge_s1 := Nat.le_trans K.le gn_s1
      have K := K.call K29 all0
      refine oWk.st (fun _ kt => st.trans (zT X hx hby at_68 rfl rfl rfl (l' := #[iv p0, iv p1, iv p2, iv p3, iv p4, iv 0, iv 2, iv a1, iv a2, iv b1, iv b2, rv s1, uu, uu]) rfl (zJ X hx hby at_70 rfl rfl (zJ X hx hby at_72 rfl rfl (zJ X hx hby at_74 rfl rfl kt))))) ?_
      have lt_s1 := T_s1.lt
      have Oh := K.old O0 all0
      obtain ⟨_, T, h, Lc32, X, e0, hQ, st⟩ := (cs31 hw).run X hx hZ hown e0 (A := [(.int (2 : Int32)), (.int b1), (.int b2)]) rfl (rSt_2 l Z a0 hw [] b1 b2 xz h Oh S_Z hz S_A S_H S_L cp_b1 cp_b2) (W := 0) (by decide) hml (Ls := #[iv p0, iv p1, iv p2, iv p3, iv p4, iv 0, iv 2, iv a1, iv a2, iv b1, iv b2, rv s1, uu, uu]) rfl (rest := []) rfl rfl hby at_76
      obtain ⟨s2, rfl, K31, gn_s2, T_s2⟩ := hQ
      have ge_s2 := Nat.le_trans K.le gn_s2
      have ne_s1_s2 : s1 ≠ s2 := Nat.ne_of_lt (Nat.lt_of_lt_of_le lt_s1 gn_s2)
      have K := K.call K31 all0
      have B := B.keep K31.1 sf0
      refine oWk.st (fun _ kt => st _ (zT X hx hby at_79 rfl rfl rfl (l' := #[iv p0, iv p1, iv p2, iv p3, iv p4, iv 0, iv 2, iv a1, iv a2, iv b1, iv b2, rv s1, rv s2, uu]) rfl (zB X hx hby at_81 rfl rfl rfl (zB X hx hby at_83 rfl rfl rfl kt)))) ?_
      have T_s1 := (T_s1.keep0 K31.1)
      have Oh := K.old O0 all0
      obtain ⟨T, L34, X, e0, K, st⟩ := (cs28 hw).pure X hx hZ hown e0 K (A := [(.ref s1), (.ref s2)]) rfl (rCmpT l Z a0 hw [] s1 s2 xfm xz (oSO 0 a1 a2) (oSO 2 b1 b2) h Oh S_Z hz S_A S_H S_L S_F hcat T_s1 T_s2 (oSOl _ _ _) (oSOl _ _ _)) (W := 0) (by decide) hml (Ls := #[iv p0, iv p1, iv p2, iv p3, iv p4, iv 0, iv 2, iv a1, iv a2, iv b1, iv b2, rv s1, rv s2, uu]) rfl (rest := []) rfl rfl hby at_85
      refine oWk.st (fun _ kt => st _ (zS X hx hby at_88 rfl rfl (l' := #[iv p0, iv p1, iv p2, iv p3, iv p4, iv 0, iv 2, iv a1, iv a2, iv b1, iv b2, rv s1, rv s2, iv (oCmpL (oSO 0 a1 a2) (oSO 2 b1 b2))]) rfl (zJ X hx hby at_90 rfl rfl kt))) ?_
      obtain ⟨T, L36, X, e0, K, st⟩ := (cs29 hw).pure X hx hZ hown e0 K (A := [(.int (oCmpL (oSO 0 a1 a2) (oSO 2 b1 b2)))]) rfl (rSgn l Z a0 hw [] (oCmpL (oSO 0 a1 a2) (oSO 2 b1 b2)) h Oh ) (W := 0) (by decide) hml (Ls := #[iv p0, iv p1, iv p2, iv p3, iv p4, iv 0, iv 2, iv a1, iv a2, iv b1, iv b2, rv s1, rv s2, iv (oCmpL (oSO 0 a1 a2) (oSO 2 b1 b2))]) rfl (rest := []) rfl rfl hby at_92
      refine oWk.to (mkF m 107 #[iv p0, iv p1, iv p2, iv p3, iv p4, iv 0, iv 2, iv a1, iv a2, iv b1, iv b2, rv s1, rv s2, iv (oCmpL (oSO 0 a1 a2) (oSO 2 b1 b2))] [(.int b2), (.int b1), (.int 2), (.int a2), (.int a1), (.int 0), (.int (oSgn (oCmpL (oSO 0 a1 a2) (oSO 2 b1 b2))))]) (fun _ kt => st _ (zJ X hx hby at_95 rfl rfl (zJ X hx hby at_97 rfl rfl (zJ X hx hby at_99 rfl rfl (zJ X hx hby at_101 rfl rfl (zJ X hx hby at_103 rfl rfl (zJ X hx hby at_105 rfl rfl kt))))))) ?_
      obtain ⟨T, L38, X, e0, K, st⟩ := (cs30 hw).pure X hx hZ hown e0 K (A := [(.int (0 : Int32)), (.int a1), (.int a2), (.int (2 : Int32)), (.int b1), (.int b2)]) rfl (rRef_0_2 l Z a0 hw [] a1 a2 b1 b2 h Oh ) (W := 1) (by decide) hml (Ls := #[iv p0, iv p1, iv p2, iv p3, iv p4, iv 0, iv 2, iv a1, iv a2, iv b1, iv b2, rv s1, rv s2, iv (oCmpL (oSO 0 a1 a2) (oSO 2 b1 b2))]) rfl (rest := [(.int (oSgn (oCmpL (oSO 0 a1 a2) (oSO 2 b1 b2))))]) rfl rfl hby at_107
      refine oWk.to (mkF m 110 #[iv p0, iv p1, iv p2, iv p3, iv p4, iv 0, iv 2, iv a1, iv a2, iv b1, iv b2, rv s1, rv s2, iv (oCmpL (oSO 0 a1 a2) (oSO 2 b1 b2))] [(.int (oRef (0 : Int32) a1 a2 (2 : Int32) b1 b2)), (.int (oSgn (oCmpL (oSO 0 a1 a2) (oSO 2 b1 b2))))]) (fun _ kt => st _ kt) ?_
      refine oWk.to (mkF m 118 #[iv p0, iv p1, iv p2, iv p3, iv p4, iv 0, iv 2, iv a1, iv a2, iv b1, iv b2, rv s1, rv s2, iv (oCmpL (oSO 0 a1 a2) (oSO 2 b1 b2))] [(.int 1)]) (fun _ kt => zN X hx hby at_110 rfl rfl (teq (oThm 0 2 (by decide) (by decide) cp_a1 cp_a2 cp_b1 cp_b2)).2 (zK X hx hby at_113 rfl (zG X hx hby at_114 rfl (pc' := 118) rfl kt))) ?_
      exact oRetH X hx hlk hZ (oELw hw) e0 B hret (oNar01 (Or.inr rfl)) (Or.inl ⟨rfl, Or.inr (Or.inl rfl), _, rfl⟩) (hb hby at_118) (by rw [e0]; exact ⟨rfl, K.fr⟩) (by decide) (by decide)
  · show oWk _ _ _ _ T (mkF m 59 #[iv p0, iv p1, iv p2, iv p3, iv p4, iv 1, iv n2, iv a1, iv a2, iv b1, iv b2, uu, uu, uu] [])
    rcases hn2 with rfl | rfl | rfl
    · show oWk _ _ _ _ T (mkF m 59 #[iv p0, iv p1, iv p2, iv p3, iv p4, iv 1, iv 0, iv a1, iv a2, iv b1, iv b2, uu, uu, uu] [])
      refine oWk.st (fun _ kt => zJ X hx hby at_59 rfl rfl (zJ X hx hby at_61 rfl rfl (zJ X hx hby at_63 rfl rfl kt))) ?_
      obtain ⟨_, T, h, Lc40, X, e0, hQ, st⟩ := (cs31 hw).run X hx hZ hown e0 (A := [(.int (1 : Int32)), (.int a1), (.int a2)]) rfl (rSt_1 l Z a0 hw [] a1 a2 xz h0 Oh S_Z hz S_A S_H S_L cp_a1) (W := 0) (by decide) hml (Ls := #[iv p0, iv p1, iv p2, iv p3, iv p4, iv 1, iv 0, iv a1, iv a2, iv b1, iv b2, uu, uu, uu]) rfl (rest := []) rfl rfl hby at_65
      obtain ⟨s1, rfl, K39, gn_s1, T_s1⟩ := hQ
      have ge_s1 := Nat.le_trans K.le gn_s1
      have K := K.call K39 all0
      have B := B.keep K39.1 sf0
      refine oWk.st (fun _ kt => st _ (zT X hx hby at_68 rfl rfl rfl (l' := #[iv p0, iv p1, iv p2, iv p3, iv p4, iv 1, iv 0, iv a1, iv a2, iv b1, iv b2, rv s1, uu, uu]) rfl (zJ X hx hby at_70 rfl rfl (zJ X hx hby at_72 rfl rfl (zJ X hx hby at_74 rfl rfl kt))))) ?_
      have lt_s1 := T_s1.lt
      have Oh := K.old O0 all0
      obtain ⟨_, _, ⟨T, L42, k42, n42⟩, -, X, hS, hgr, ⟨Lc42, hQ, l42, y42, z42, C⟩, st⟩ := callSS X hx (y := yy26) hown (mvT hZ (oW hw 10 rfl)) (mvT hZ (oW hw 11 rfl)) (mvT hZ (oW hw 2 rfl)) (mvT hZ (oW hw 12 rfl)) (by decide) (oBackH (W := 0) (rSt_0 l Z a0 hw [] b1 b2 xz h Oh S_Z hz S_A S_H S_L) hZ (oW hw 12 rfl) (oW hw 2 rfl) (by decide) (by decide) (oELw hw) B.2.1 all0) (g := (mkF m 76 #[iv p0, iv p1, iv p2, iv p3, iv p4, iv 1, iv 0, iv a1, iv a2, iv b1, iv b2, rv s1, uu, uu] [(.int b2), (.int b1), (.int 0)])) rfl (by rw [hml]; rfl) (argsL := [(.int (0 : Int32)), (.int b1), (.int b2)]) (rest := []) (lenOf pd_22 rfl) rfl (Nat.le_of_eq rfl) (hb hby at_76) (fun _ _ => ⟨rfl, e0, (by decide : 5 + 7 ≤ _), (by decide : 16 + 16 ≤ _)⟩)
      dsimp only [Pt.U, Pt.locs, Pt.cells, Pt.slots] at X l42 y42 z42 st hQ C hS hgr
      subst l42 y42 z42
      have X : Stand p l e _ (s.setVm T.vm) m _ below meth c T _ _ _ := X
      obtain ⟨h, e2⟩ : ∃ z, T.heap = z := ⟨_, rfl⟩
      have B := B.call e0 hS hgr C e2
      obtain ⟨hZ, hown⟩ := oWide hZ hown hS
      rw [e2] at hQ C
      have e0 := e2
      obtain ⟨s2, rfl, K41, gn_s2, T_s2⟩ := hQ
      have ge_s2 := Nat.le_trans K.le gn_s2
      have ne_s1_s2 : s1 ≠ s2 := Nat.ne_of_lt (Nat.lt_of_lt_of_le lt_s1 gn_s2)
      have K := K.call K41 all0
      refine oWk.st (fun _ kt => st.trans (zT X hx hby at_79 rfl rfl rfl (l' := #[iv p0, iv p1, iv p2, iv p3, iv p4, iv 1, iv 0, iv a1, iv a2, iv b1, iv b2, rv s1, rv s2, uu]) rfl (zB X hx hby at_81 rfl rfl rfl (zB X hx hby at_83 rfl rfl rfl kt)))) ?_
      have T_s1 := (T_s1.keep0 K41.1)
      have Oh := K.old O0 all0
      obtain ⟨T, L44, X, e0, K, st⟩ := (cs28 hw).pure X hx hZ hown e0 K (A := [(.ref s1), (.ref s2)]) rfl (rCmpT l Z a0 hw [] s1 s2 xfm xz (oSO 1 a1 a2) (oSO 0 b1 b2) h Oh S_Z hz S_A S_H S_L S_F hcat T_s1 T_s2 (oSOl _ _ _) (oSOl _ _ _)) (W := 0) (by decide) hml (Ls := #[iv p0, iv p1, iv p2, iv p3, iv p4, iv 1, iv 0, iv a1, iv a2, iv b1, iv b2, rv s1, rv s2, uu]) rfl (rest := []) rfl rfl hby at_85
      refine oWk.st (fun _ kt => st _ (zS X hx hby at_88 rfl rfl (l' := #[iv p0, iv p1, iv p2, iv p3, iv p4, iv 1, iv 0, iv a1, iv a2, iv b1, iv b2, rv s1, rv s2, iv (oCmpL (oSO 1 a1 a2) (oSO 0 b1 b2))]) rfl (zJ X hx hby at_90 rfl rfl kt))) ?_
      obtain ⟨T, L46, X, e0, K, st⟩ := (cs29 hw).pure X hx hZ hown e0 K (A := [(.int (oCmpL (oSO 1 a1 a2) (oSO 0 b1 b2)))]) rfl (rSgn l Z a0 hw [] (oCmpL (oSO 1 a1 a2) (oSO 0 b1 b2)) h Oh ) (W := 0) (by decide) hml (Ls := #[iv p0, iv p1, iv p2, iv p3, iv p4, iv 1, iv 0, iv a1, iv a2, iv b1, iv b2, rv s1, rv s2, iv (oCmpL (oSO 1 a1 a2) (oSO 0 b1 b2))]) rfl (rest := []) rfl rfl hby at_92
      refine oWk.to (mkF m 107 #[iv p0, iv p1, iv p2, iv p3, iv p4, iv 1, iv 0, iv a1, iv a2, iv b1, iv b2, rv s1, rv s2, iv (oCmpL (oSO 1 a1 a2) (oSO 0 b1 b2))] [(.int b2), (.int b1), (.int 0), (.int a2), (.int a1), (.int 1), (.int (oSgn (oCmpL (oSO 1 a1 a2) (oSO 0 b1 b2))))]) (fun _ kt => st _ (zJ X hx hby at_95 rfl rfl (zJ X hx hby at_97 rfl rfl (zJ X hx hby at_99 rfl rfl (zJ X hx hby at_101 rfl rfl (zJ X hx hby at_103 rfl rfl (zJ X hx hby at_105 rfl rfl kt))))))) ?_
      obtain ⟨T, L48, X, e0, K, st⟩ := (cs30 hw).pure X hx hZ hown e0 K (A := [(.int (1 : Int32)), (.int a1), (.int a2), (.int (0 : Int32)), (.int b1), (.int b2)]) rfl (rRef_1_0 l Z a0 hw [] a1 a2 b1 b2 h Oh ) (W := 1) (by decide) hml (Ls := #[iv p0, iv p1, iv p2, iv p3, iv p4, iv 1, iv 0, iv a1, iv a2, iv b1, iv b2, rv s1, rv s2, iv (oCmpL (oSO 1 a1 a2) (oSO 0 b1 b2))]) rfl (rest := [(.int (oSgn (oCmpL (oSO 1 a1 a2) (oSO 0 b1 b2))))]) rfl rfl hby at_107
      refine oWk.to (mkF m 110 #[iv p0, iv p1, iv p2, iv p3, iv p4, iv 1, iv 0, iv a1, iv a2, iv b1, iv b2, rv s1, rv s2, iv (oCmpL (oSO 1 a1 a2) (oSO 0 b1 b2))] [(.int (oRef (1 : Int32) a1 a2 (0 : Int32) b1 b2)), (.int (oSgn (oCmpL (oSO 1 a1 a2) (oSO 0 b1 b2))))]) (fun _ kt => st _ kt) ?_
      refine oWk.to (mkF m 118 #[iv p0, iv p1, iv p2, iv p3, iv p4, iv 1, iv 0, iv a1, iv a2, iv b1, iv b2, rv s1, rv s2, iv (oCmpL (oSO 1 a1 a2) (oSO 0 b1 b2))] [(.int 1)]) (fun _ kt => zN X hx hby at_110 rfl rfl (teq (oThm 1 0 (by decide) (by decide) cp_a1 cp_a2 cp_b1 cp_b2)).2 (zK X hx hby at_113 rfl (zG X hx hby at_114 rfl (pc' := 118) rfl kt))) ?_
      exact oRetH X hx hlk hZ (oELw hw) e0 B hret (oNar01 (Or.inr rfl)) (Or.inl ⟨rfl, Or.inr (Or.inl rfl), _, rfl⟩) (hb hby at_118) (by rw [e0]; exact ⟨rfl, K.fr⟩) (by decide) (by decide)
    · show oWk _ _ _ _ T (mkF m 59 #[iv p0, iv p1, iv p2, iv p3, iv p4, iv 1, iv 1, iv a1, iv a2, iv b1, iv b2, uu, uu, uu] [])
      refine oWk.st (fun _ kt => zJ X hx hby at_59 rfl rfl (zJ X hx hby at_61 rfl rfl (zJ X hx hby at_63 rfl rfl kt))) ?_
      obtain ⟨_, T, h, Lc50, X, e0, hQ, st⟩ := (cs31 hw).run X hx hZ hown e0 (A := [(.int (1 : Int32)), (.int a1), (.int a2)]) rfl (rSt_1 l Z a0 hw [] a1 a2 xz h0 Oh S_Z hz S_A S_H S_L cp_a1) (W := 0) (by decide) hml (Ls := #[iv p0, iv p1, iv p2, iv p3, iv p4, iv 1, iv 1, iv a1, iv a2, iv b1, iv b2, uu, uu, uu]) rfl (rest := []) rfl rfl hby at_65
      obtain ⟨s1, rfl, K49, gn_s1, T_s1⟩ := hQ
      have ge_s1 := Nat.le_trans K.le gn_s1
      have K := K.call K49 all0
      have B := B.keep K49.1 sf0
      refine oWk.st (fun _ kt => st _ (zT X hx hby at_68 rfl rfl rfl (l' := #[iv p0, iv p1, iv p2, iv p3, iv p4, iv 1, iv 1, iv a1, iv a2, iv b1, iv b2, rv s1, uu, uu]) rfl (zJ X hx hby at_70 rfl rfl (zJ X hx hby at_72 rfl rfl (zJ X hx hby at_74 rfl rfl kt))))) ?_
      have lt_s1 := T_s1.lt
      have Oh := K.old O0 all0
      obtain ⟨_, T, h, Lc52, X, e0, hQ, st⟩ := (cs31 hw).run X hx hZ hown e0 (A := [(.int (1 : Int32)), (.int b1), (.int b2)]) rfl (rSt_1 l Z a0 hw [] b1 b2 xz h Oh S_Z hz S_A S_H S_L cp_b1) (W := 0) (by decide) hml (Ls := #[iv p0, iv p1, iv p2, iv p3, iv p4, iv 1, iv 1, iv a1, iv a2, iv b1, iv b2, rv s1, uu, uu]) rfl (rest := []) rfl rfl hby at_76
      obtain ⟨s2, rfl, K51, gn_s2, T_s2⟩ := hQ
      have ge_s2 := Nat.le_trans K.le gn_s2
      have ne_s1_s2 : s1 ≠ s2 := Nat.ne_of_lt (Nat.lt_of_lt_of_le lt_s1 gn_s2)
      have K := K.call K51 all0
      have B := B.keep K51.1 sf0
      refine oWk.st (fun _ kt => st _ (zT X hx hby at_79 rfl rfl rfl (l' := #[iv p0, iv p1, iv p2, iv p3, iv p4, iv 1, iv 1, iv a1, iv a2, iv b1, iv b2, rv s1, rv s2, uu]) rfl (zB X hx hby at_81 rfl rfl rfl (zB X hx hby at_83 rfl rfl rfl kt)))) ?_
      have T_s1 := (T_s1.keep0 K51.1)
      have Oh := K.old O0 all0
      obtain ⟨T, L54, X, e0, K, st⟩ := (cs28 hw).pure X hx hZ hown e0 K (A := [(.ref s1), (.ref s2)]) rfl (rCmpT l Z a0 hw [] s1 s2 xfm xz (oSO 1 a1 a2) (oSO 1 b1 b2) h Oh S_Z hz S_A S_H S_L S_F hcat T_s1 T_s2 (oSOl _ _ _) (oSOl _ _ _)) (W := 0) (by decide) hml (Ls := #[iv p0, iv p1, iv p2, iv p3, iv p4, iv 1, iv 1, iv a1, iv a2, iv b1, iv b2, rv s1, rv s2, uu]) rfl (rest := []) rfl rfl hby at_85
      refine oWk.st (fun _ kt => st _ (zS X hx hby at_88 rfl rfl (l' := #[iv p0, iv p1, iv p2, iv p3, iv p4, iv 1, iv 1, iv a1, iv a2, iv b1, iv b2, rv s1, rv s2, iv (oCmpL (oSO 1 a1 a2) (oSO 1 b1 b2))]) rfl (zJ X hx hby at_90 rfl rfl kt))) ?_
      obtain ⟨T, L56, X, e0, K, st⟩ := (cs29 hw).pure X hx hZ hown e0 K (A := [(.int (oCmpL (oSO 1 a1 a2) (oSO 1 b1 b2)))]) rfl (rSgn l Z a0 hw [] (oCmpL (oSO 1 a1 a2) (oSO 1 b1 b2)) h Oh ) (W := 0) (by decide) hml (Ls := #[iv p0, iv p1, iv p2, iv p3, iv p4, iv 1, iv 1, iv a1, iv a2, iv b1, iv b2, rv s1, rv s2, iv (oCmpL (oSO 1 a1 a2) (oSO 1 b1 b2))]) rfl (rest := []) rfl rfl hby at_92
      refine oWk.to (mkF m 107 #[iv p0, iv p1, iv p2, iv p3, iv p4, iv 1, iv 1, iv a1, iv a2, iv b1, iv b2, rv s1, rv s2, iv (oCmpL (oSO 1 a1 a2) (oSO 1 b1 b2))] [(.int b2), (.int b1), (.int 1), (.int a2), (.int a1), (.int 1), (.int (oSgn (oCmpL (oSO 1 a1 a2) (oSO 1 b1 b2))))]) (fun _ kt => st _ (zJ X hx hby at_95 rfl rfl (zJ X hx hby at_97 rfl rfl (zJ X hx hby at_99 rfl rfl (zJ X hx hby at_101 rfl rfl (zJ X hx hby at_103 rfl rfl (zJ X hx hby at_105 rfl rfl kt))))))) ?_
      obtain ⟨T, L58, X, e0, K, st⟩ := (cs30 hw).pure X hx hZ hown e0 K (A := [(.int (1 : Int32)), (.int a1), (.int a2), (.int (1 : Int32)), (.int b1), (.int b2)]) rfl (rRef_1_1 l Z a0 hw [] a1 a2 b1 b2 h Oh ) (W := 1) (by decide) hml (Ls := #[iv p0, iv p1, iv p2, iv p3, iv p4, iv 1, iv 1, iv a1, iv a2, iv b1, iv b2, rv s1, rv s2, iv (oCmpL (oSO 1 a1 a2) (oSO 1 b1 b2))]) rfl (rest := [(.int (oSgn (oCmpL (oSO 1 a1 a2) (oSO 1 b1 b2))))]) rfl rfl hby at_107
      refine oWk.to (mkF m 110 #[iv p0, iv p1, iv p2, iv p3, iv p4, iv 1, iv 1, iv a1, iv a2, iv b1, iv b2, rv s1, rv s2, iv (oCmpL (oSO 1 a1 a2) (oSO 1 b1 b2))] [(.int (oRef (1 : Int32) a1 a2 (1 : Int32) b1 b2)), (.int (oSgn (oCmpL (oSO 1 a1 a2) (oSO 1 b1 b2))))]) (fun _ kt => st _ kt) ?_
      refine oWk.to (mkF m 118 #[iv p0, iv p1, iv p2, iv p3, iv p4, iv 1, iv 1, iv a1, iv a2, iv b1, iv b2, rv s1, rv s2, iv (oCmpL (oSO 1 a1 a2) (oSO 1 b1 b2))] [(.int 1)]) (fun _ kt => zN X hx hby at_110 rfl rfl (teq (oThm 1 1 (by decide) (by decide) cp_a1 cp_a2 cp_b1 cp_b2)).2 (zK X hx hby at_113 rfl (zG X hx hby at_114 rfl (pc' := 118) rfl kt))) ?_
      exact oRetH X hx hlk hZ (oELw hw) e0 B hret (oNar01 (Or.inr rfl)) (Or.inl ⟨rfl, Or.inr (Or.inl rfl), _, rfl⟩) (hb hby at_118) (by rw [e0]; exact ⟨rfl, K.fr⟩) (by decide) (by decide)
    · show oWk _ _ _ _ T (mkF m 59 #[iv p0, iv p1, iv p2, iv p3, iv p4, iv 1, iv 2, iv a1, iv a2, iv b1, iv b2, uu, uu, uu] [])
      refine oWk.st (fun _ kt => zJ X hx hby at_59 rfl rfl (zJ X hx hby at_61 rfl rfl (zJ X hx hby at_63 rfl rfl kt))) ?_
      obtain ⟨_, T, h, Lc60, X, e0, hQ, st⟩ := (cs31 hw).run X hx hZ hown e0 (A := [(.int (1 : Int32)), (.int a1), (.int a2)]) rfl (rSt_1 l Z a0 hw [] a1 a2 xz h0 Oh S_Z hz S_A S_H S_L cp_a1) (W := 0) (by decide) hml (Ls := #[iv p0, iv p1, iv p2, iv p3, iv p4, iv 1, iv 2, iv a1, iv a2, iv b1, iv b2, uu, uu, uu]) rfl (rest := []) rfl rfl hby at_65
      obtain ⟨s1, rfl, K59, gn_s1, T_s1⟩ := hQ
      have ge_s1 := Nat.le_trans K.le gn_s1
      have K := K.call K59 all0
      have B := B.keep K59.1 sf0
      refine oWk.st (fun _ kt => st _ (zT X hx hby at_68 rfl rfl rfl (l' := #[iv p0, iv p1, iv p2, iv p3, iv p4, iv 1, iv 2, iv a1, iv a2, iv b1, iv b2, rv s1, uu, uu]) rfl (zJ X hx hby at_70 rfl rfl (zJ X hx hby at_72 rfl rfl (zJ X hx hby at_74 rfl rfl kt))))) ?_
      have lt_s1 := T_s1.lt
      have Oh := K.old O0 all0
      obtain ⟨_, T, h, Lc62, X, e0, hQ, st⟩ := (cs31 hw).run X hx hZ hown e0 (A := [(.int (2 : Int32)), (.int b1), (.int b2)]) rfl (rSt_2 l Z a0 hw [] b1 b2 xz h Oh S_Z hz S_A S_H S_L cp_b1 cp_b2) (W := 0) (by decide) hml (Ls := #[iv p0, iv p1, iv p2, iv p3, iv p4, iv 1, iv 2, iv a1, iv a2, iv b1, iv b2, rv s1, uu, uu]) rfl (rest := []) rfl rfl hby at_76
      obtain ⟨s2, rfl, K61, gn_s2, T_s2⟩ := hQ
      have ge_s2 := Nat.le_trans K.le gn_s2
      have ne_s1_s2 : s1 ≠ s2 := Nat.ne_of_lt (Nat.lt_of_lt_of_le lt_s1 gn_s2)
      have K := K.call K61 all0
      have B := B.keep K61.1 sf0
      refine oWk.st (fun _ kt => st _ (zT X hx hby at_79 rfl rfl rfl (l' := #[iv p0, iv p1, iv p2, iv p3, iv p4, iv 1, iv 2, iv a1, iv a2, iv b1, iv b2, rv s1, rv s2, uu]) rfl (zB X hx hby at_81 rfl rfl rfl (zB X hx hby at_83 rfl rfl rfl kt)))) ?_
      have T_s1 := (T_s1.keep0 K61.1)
      have Oh := K.old O0 all0
      obtain ⟨T, L64, X, e0, K, st⟩ := (cs28 hw).pure X hx hZ hown e0 K (A := [(.ref s1), (.ref s2)]) rfl (rCmpT l Z a0 hw [] s1 s2 xfm xz (oSO 1 a1 a2) (oSO 2 b1 b2) h Oh S_Z hz S_A S_H S_L S_F hcat T_s1 T_s2 (oSOl _ _ _) (oSOl _ _ _)) (W := 0) (by decide) hml (Ls := #[iv p0, iv p1, iv p2, iv p3, iv p4, iv 1, iv 2, iv a1, iv a2, iv b1, iv b2, rv s1, rv s2, uu]) rfl (rest := []) rfl rfl hby at_85
      refine oWk.st (fun _ kt => st _ (zS X hx hby at_88 rfl rfl (l' := #[iv p0, iv p1, iv p2, iv p3, iv p4, iv 1, iv 2, iv a1, iv a2, iv b1, iv b2, rv s1, rv s2, iv (oCmpL (oSO 1 a1 a2) (oSO 2 b1 b2))]) rfl (zJ X hx hby at_90 rfl rfl kt))) ?_
      obtain ⟨T, L66, X, e0, K, st⟩ := (cs29 hw).pure X hx hZ hown e0 K (A := [(.int (oCmpL (oSO 1 a1 a2) (oSO 2 b1 b2)))]) rfl (rSgn l Z a0 hw [] (oCmpL (oSO 1 a1 a2) (oSO 2 b1 b2)) h Oh ) (W := 0) (by decide) hml (Ls := #[iv p0, iv p1, iv p2, iv p3, iv p4, iv 1, iv 2, iv a1, iv a2, iv b1, iv b2, rv s1, rv s2, iv (oCmpL (oSO 1 a1 a2) (oSO 2 b1 b2))]) rfl (rest := []) rfl rfl hby at_92
      refine oWk.to (mkF m 107 #[iv p0, iv p1, iv p2, iv p3, iv p4, iv 1, iv 2, iv a1, iv a2, iv b1, iv b2, rv s1, rv s2, iv (oCmpL (oSO 1 a1 a2) (oSO 2 b1 b2))] [(.int b2), (.int b1), (.int 2), (.int a2), (.int a1), (.int 1), (.int (oSgn (oCmpL (oSO 1 a1 a2) (oSO 2 b1 b2))))]) (fun _ kt => st _ (zJ X hx hby at_95 rfl rfl (zJ X hx hby at_97 rfl rfl (zJ X hx hby at_99 rfl rfl (zJ X hx hby at_101 rfl rfl (zJ X hx hby at_103 rfl rfl (zJ X hx hby at_105 rfl rfl kt))))))) ?_
      obtain ⟨T, L68, X, e0, K, st⟩ := (cs30 hw).pure X hx hZ hown e0 K (A := [(.int (1 : Int32)), (.int a1), (.int a2), (.int (2 : Int32)), (.int b1), (.int b2)]) rfl (rRef_1_2 l Z a0 hw [] a1 a2 b1 b2 h Oh ) (W := 1) (by decide) hml (Ls := #[iv p0, iv p1, iv p2, iv p3, iv p4, iv 1, iv 2, iv a1, iv a2, iv b1, iv b2, rv s1, rv s2, iv (oCmpL (oSO 1 a1 a2) (oSO 2 b1 b2))]) rfl (rest := [(.int (oSgn (oCmpL (oSO 1 a1 a2) (oSO 2 b1 b2))))]) rfl rfl hby at_107
      refine oWk.to (mkF m 110 #[iv p0, iv p1, iv p2, iv p3, iv p4, iv 1, iv 2, iv a1, iv a2, iv b1, iv b2, rv s1, rv s2, iv (oCmpL (oSO 1 a1 a2) (oSO 2 b1 b2))] [(.int (oRef (1 : Int32) a1 a2 (2 : Int32) b1 b2)), (.int (oSgn (oCmpL (oSO 1 a1 a2) (oSO 2 b1 b2))))]) (fun _ kt => st _ kt) ?_
      refine oWk.to (mkF m 118 #[iv p0, iv p1, iv p2, iv p3, iv p4, iv 1, iv 2, iv a1, iv a2, iv b1, iv b2, rv s1, rv s2, iv (oCmpL (oSO 1 a1 a2) (oSO 2 b1 b2))] [(.int 1)]) (fun _ kt => zN X hx hby at_110 rfl rfl (teq (oThm 1 2 (by decide) (by decide) cp_a1 cp_a2 cp_b1 cp_b2)).2 (zK X hx hby at_113 rfl (zG X hx hby at_114 rfl (pc' := 118) rfl kt))) ?_
      exact oRetH X hx hlk hZ (oELw hw) e0 B hret (oNar01 (Or.inr rfl)) (Or.inl ⟨rfl, Or.inr (Or.inl rfl), _, rfl⟩) (hb hby at_118) (by rw [e0]; exact ⟨rfl, K.fr⟩) (by decide) (by decide)
  · show oWk _ _ _ _ T (mkF m 59 #[iv p0, iv p1, iv p2, iv p3, iv p4, iv 2, iv n2, iv a1, iv a2, iv b1, iv b2, uu, uu, uu] [])
    rcases hn2 with rfl | rfl | rfl
    · show oWk _ _ _ _ T (mkF m 59 #[iv p0, iv p1, iv p2, iv p3, iv p4, iv 2, iv 0, iv a1, iv a2, iv b1, iv b2, uu, uu, uu] [])
      refine oWk.st (fun _ kt => zJ X hx hby at_59 rfl rfl (zJ X hx hby at_61 rfl rfl (zJ X hx hby at_63 rfl rfl kt))) ?_
      obtain ⟨_, T, h, Lc70, X, e0, hQ, st⟩ := (cs31 hw).run X hx hZ hown e0 (A := [(.int (2 : Int32)), (.int a1), (.int a2)]) rfl (rSt_2 l Z a0 hw [] a1 a2 xz h0 Oh S_Z hz S_A S_H S_L cp_a1 cp_a2) (W := 0) (by decide) hml (Ls := #[iv p0, iv p1, iv p2, iv p3, iv p4, iv 2, iv 0, iv a1, iv a2, iv b1, iv b2, uu, uu, uu]) rfl (rest := []) rfl rfl hby at_65
      obtain ⟨s1, rfl, K69, gn_s1, T_s1⟩ := hQ
      have ge_s1 := Nat.le_trans K.le gn_s1
      have K := K.call K69 all0
      have B := B.keep K69.1 sf0
      refine oWk.st (fun _ kt => st _ (zT X hx hby at_68 rfl rfl rfl (l' := #[iv p0, iv p1, iv p2, iv p3, iv p4, iv 2, iv 0, iv a1, iv a2, iv b1, iv b2, rv s1, uu, uu]) rfl (zJ X hx hby at_70 rfl rfl (zJ X hx hby at_72 rfl rfl (zJ X hx hby at_74 rfl rfl kt))))) ?_
      have lt_s1 := T_s1.lt
      have Oh := K.old O0 all0
      obtain ⟨_, _, ⟨T, L72, k72, n72⟩, -, X, hS, hgr, ⟨Lc72, hQ, l72, y72, z72, C⟩, st⟩ := callSS X hx (y := yy26) hown (mvT hZ (oW hw 10 rfl)) (mvT hZ (oW hw 11 rfl)) (mvT hZ (oW hw 2 rfl)) (mvT hZ (oW hw 12 rfl)) (by decide) (oBackH (W := 0) (rSt_0 l Z a0 hw [] b1 b2 xz h Oh S_Z hz S_A S_H S_L) hZ (oW hw 12 rfl) (oW hw 2 rfl) (by decide) (by decide) (oELw hw) B.2.1 all0) (g := (mkF m 76 #[iv p0, iv p1, iv p2, iv p3, iv p4, iv 2, iv 0, iv a1, iv a2, iv b1, iv b2, rv s1, uu, uu] [(.int b2), (.int b1), (.int 0)])) rfl (by rw [hml]; rfl) (argsL := [(.int (0 : Int32)), (.int b1), (.int b2)]) (rest := []) (lenOf pd_22 rfl) rfl (Nat.le_of_eq rfl) (hb hby at_76) (fun _ _ => ⟨rfl, e0, (by decide : 5 + 7 ≤ _), (by decide : 24 + 16 ≤ _)⟩)
      dsimp only [Pt.U, Pt.locs, Pt.cells, Pt.slots] at X l72 y72 z72 st hQ C hS hgr
      subst l72 y72 z72
      have X : Stand p l e _ (s.setVm T.vm) m _ below meth c T _ _ _ := X
      obtain ⟨h, e2⟩ : ∃ z, T.heap = z := ⟨_, rfl⟩
      have B := B.call e0 hS hgr C e2
      obtain ⟨hZ, hown⟩ := oWide hZ hown hS
      rw [e2] at hQ C
      have e0 := e2
      obtain ⟨s2, rfl, K71, gn_s2, T_s2⟩ := hQ
      have ge_s2 := Nat.le_trans K.le gn_s2
      have ne_s1_s2 : s1 ≠ s2 := Nat.ne_of_lt (Nat.lt_of_lt_of_le lt_s1 gn_s2)
      have K := K.call K71 all0
      refine oWk.st (fun _ kt => st.trans (zT X hx hby at_79 rfl rfl rfl (l' := #[iv p0, iv p1, iv p2, iv p3, iv p4, iv 2, iv 0, iv a1, iv a2, iv b1, iv b2, rv s1, rv s2, uu]) rfl (zB X hx hby at_81 rfl rfl rfl (zB X hx hby at_83 rfl rfl rfl kt)))) ?_
      have T_s1 := (T_s1.keep0 K71.1)
      have Oh := K.old O0 all0
      obtain ⟨T, L74, X, e0, K, st⟩ := (cs28 hw).pure X hx hZ hown e0 K (A := [(.ref s1), (.ref s2)]) rfl (rCmpT l Z a0 hw [] s1 s2 xfm xz (oSO 2 a1 a2) (oSO 0 b1 b2) h Oh S_Z hz S_A S_H S_L S_F hcat T_s1 T_s2 (oSOl _ _ _) (oSOl _ _ _)) (W := 0) (by decide) hml (Ls := #[iv p0, iv p1, iv p2, iv p3, iv p4, iv 2, iv 0, iv a1, iv a2, iv b1, iv b2, rv s1, rv s2, uu]) rfl (rest := []) rfl rfl hby at_85
      refine oWk.st (fun _ kt => st _ (zS X hx hby at_88 rfl rfl (l' := #[iv p0, iv p1, iv p2, iv p3, iv p4, iv 2, iv 0, iv a1, iv a2, iv b1, iv b2, rv s1, rv s2, iv (oCmpL (oSO 2 a1 a2) (oSO 0 b1 b2))]) rfl (zJ X hx hby at_90 rfl rfl kt))) ?_
      obtain ⟨T, L76, X, e0, K, st⟩ := (cs29 hw).pure X hx hZ hown e0 K (A := [(.int (oCmpL (oSO 2 a1 a2) (oSO 0 b1 b2)))]) rfl (rSgn l Z a0 hw [] (oCmpL (oSO 2 a1 a2) (oSO 0 b1 b2)) h Oh ) (W := 0) (by decide) hml (Ls := #[iv p0, iv p1, iv p2, iv p3, iv p4, iv 2, iv 0, iv a1, iv a2, iv b1, iv b2, rv s1, rv s2, iv (oCmpL (oSO 2 a1 a2) (oSO 0 b1 b2))]) rfl (rest := []) rfl rfl hby at_92
      refine oWk.to (mkF m 107 #[iv p0, iv p1, iv p2, iv p3, iv p4, iv 2, iv 0, iv a1, iv a2, iv b1, iv b2, rv s1, rv s2, iv (oCmpL (oSO 2 a1 a2) (oSO 0 b1 b2))] [(.int b2), (.int b1), (.int 0), (.int a2), (.int a1), (.int 2), (.int (oSgn (oCmpL (oSO 2 a1 a2) (oSO 0 b1 b2))))]) (fun _ kt => st _ (zJ X hx hby at_95 rfl rfl (zJ X hx hby at_97 rfl rfl (zJ X hx hby at_99 rfl rfl (zJ X hx hby at_101 rfl rfl (zJ X hx hby at_103 rfl rfl (zJ X hx hby at_105 rfl rfl kt))))))) ?_
      obtain ⟨T, L78, X, e0, K, st⟩ := (cs30 hw).pure X hx hZ hown e0 K (A := [(.int (2 : Int32)), (.int a1), (.int a2), (.int (0 : Int32)), (.int b1), (.int b2)]) rfl (rRef_2_0 l Z a0 hw [] a1 a2 b1 b2 h Oh ) (W := 1) (by decide) hml (Ls := #[iv p0, iv p1, iv p2, iv p3, iv p4, iv 2, iv 0, iv a1, iv a2, iv b1, iv b2, rv s1, rv s2, iv (oCmpL (oSO 2 a1 a2) (oSO 0 b1 b2))]) rfl (rest := [(.int (oSgn (oCmpL (oSO 2 a1 a2) (oSO 0 b1 b2))))]) rfl rfl hby at_107
      refine oWk.to (mkF m 110 #[iv p0, iv p1, iv p2, iv p3, iv p4, iv 2, iv 0, iv a1, iv a2, iv b1, iv b2, rv s1, rv s2, iv (oCmpL (oSO 2 a1 a2) (oSO 0 b1 b2))] [(.int (oRef (2 : Int32) a1 a2 (0 : Int32) b1 b2)), (.int (oSgn (oCmpL (oSO 2 a1 a2) (oSO 0 b1 b2))))]) (fun _ kt => st _ kt) ?_
      refine oWk.to (mkF m 118 #[iv p0, iv p1, iv p2, iv p3, iv p4, iv 2, iv 0, iv a1, iv a2, iv b1, iv b2, rv s1, rv s2, iv (oCmpL (oSO 2 a1 a2) (oSO 0 b1 b2))] [(.int 1)]) (fun _ kt => zN X hx hby at_110 rfl rfl (teq (oThm 2 0 (by decide) (by decide) cp_a1 cp_a2 cp_b1 cp_b2)).2 (zK X hx hby at_113 rfl (zG X hx hby at_114 rfl (pc' := 118) rfl kt))) ?_
      exact oRetH X hx hlk hZ (oELw hw) e0 B hret (oNar01 (Or.inr rfl)) (Or.inl ⟨rfl, Or.inr (Or.inl rfl), _, rfl⟩) (hb hby at_118) (by rw [e0]; exact ⟨rfl, K.fr⟩) (by decide) (by decide)
    · show oWk _ _ _ _ T (mkF m 59 #[iv p0, iv p1, iv p2, iv p3, iv p4, iv 2, iv 1, iv a1, iv a2, iv b1, iv b2, uu, uu, uu] [])
      refine oWk.st (fun _ kt => zJ X hx hby at_59 rfl rfl (zJ X hx hby at_61 rfl rfl (zJ X hx hby at_63 rfl rfl kt))) ?_
      obtain ⟨_, T, h, Lc80, X, e0, hQ, st⟩ := (cs31 hw).run X hx hZ hown e0 (A := [(.int (2 : Int32)), (.int a1), (.int a2)]) rfl (rSt_2 l Z a0 hw [] a1 a2 xz h0 Oh S_Z hz S_A S_H S_L cp_a1 cp_a2) (W := 0) (by decide) hml (Ls := #[iv p0, iv p1, iv p2, iv p3, iv p4, iv 2, iv 1, iv a1, iv a2, iv b1, iv b2, uu, uu, uu]) rfl (rest := []) rfl rfl hby at_65
      obtain ⟨s1, rfl, K79, gn_s1, T_s1⟩ := hQ
      have ge_s1 := Nat.le_trans K.le gn_s1
      have K := K.call K79 all0
      have B := B.keep K79.1 sf0
      refine oWk.st (fun _ kt => st _ (zT X hx hby at_68 rfl rfl rfl (l' := #[iv p0, iv p1, iv p2, iv p3, iv p4, iv 2, iv 1, iv a1, iv a2, iv b1, iv b2, rv s1, uu, uu]) rfl (zJ X hx hby at_70 rfl rfl (zJ X hx hby at_72 rfl rfl (zJ X hx hby at_74 rfl rfl kt))))) ?_
      have lt_s1 := T_s1.lt
      have Oh := K.old O0 all0
      obtain ⟨_, T, h, Lc82, X, e0, hQ, st⟩ := (cs31 hw).run X hx hZ hown e0 (A := [(.int (1 : Int32)), (.int b1), (.int b2)]) rfl (rSt_1 l Z a0 hw [] b1 b2 xz h Oh S_Z hz S_A S_H S_L cp_b1) (W := 0) (by decide) hml (Ls := #[iv p0, iv p1, iv p2, iv p3, iv p4, iv 2, iv 1, iv a1, iv a2, iv b1, iv b2, rv s1, uu, uu]) rfl (rest := []) rfl rfl hby at_76
      obtain ⟨s2, rfl, K81, gn_s2, T_s2⟩ := hQ
      have ge_s2 := Nat.le_trans K.le gn_s2
      have ne_s1_s2 : s1 ≠ s2 := Nat.ne_of_lt (Nat.lt_of_lt_of_le lt_s1 gn_s2)
      have K := K.call K81 all0
      have B := B.keep K81.1 sf0
      refine oWk.st (fun _ kt => st _ (zT X hx hby at_79 rfl rfl rfl (l' := #[iv p0, iv p1, iv p2, iv p3, iv p4, iv 2, iv 1, iv a1, iv a2, iv b1, iv b2, rv s1, rv s2, uu]) rfl (zB X hx hby at_81 rfl rfl rfl (zB X hx hby at_83 rfl rfl rfl kt)))) ?_
      have T_s1 := (T_s1.keep0 K81.1)
      have Oh := K.old O0 all0
      obtain ⟨T, L84, X, e0, K, st⟩ := (cs28 hw).pure X hx hZ hown e0 K (A := [(.ref s1), (.ref s2)]) rfl (rCmpT l Z a0 hw [] s1 s2 xfm xz (oSO 2 a1 a2) (oSO 1 b1 b2) h Oh S_Z hz S_A S_H S_L S_F hcat T_s1 T_s2 (oSOl _ _ _) (oSOl _ _ _)) (W := 0) (by decide) hml (Ls := #[iv p0, iv p1, iv p2, iv p3, iv p4, iv 2, iv 1, iv a1, iv a2, iv b1, iv b2, rv s1, rv s2, uu]) rfl (rest := []) rfl rfl hby at_85
      refine oWk.st (fun _ kt => st _ (zS X hx hby at_88 rfl rfl (l' := #[iv p0, iv p1, iv p2, iv p3, iv p4, iv 2, iv 1, iv a1, iv a2, iv b1, iv b2, rv s1, rv s2, iv (oCmpL (oSO 2 a1 a2) (oSO 1 b1 b2))]) rfl (zJ X hx hby at_90 rfl rfl kt))) ?_
      obtain ⟨T, L86, X, e0, K, st⟩ := (cs29 hw).pure X hx hZ hown e0 K (A := [(.int (oCmpL (oSO 2 a1 a2) (oSO 1 b1 b2)))]) rfl (rSgn l Z a0 hw [] (oCmpL (oSO 2 a1 a2) (oSO 1 b1 b2)) h Oh ) (W := 0) (by decide) hml (Ls := #[iv p0, iv p1, iv p2, iv p3, iv p4, iv 2, iv 1, iv a1, iv a2, iv b1, iv b2, rv s1, rv s2, iv (oCmpL (oSO 2 a1 a2) (oSO 1 b1 b2))]) rfl (rest := []) rfl rfl hby at_92
      refine oWk.to (mkF m 107 #[iv p0, iv p1, iv p2, iv p3, iv p4, iv 2, iv 1, iv a1, iv a2, iv b1, iv b2, rv s1, rv s2, iv (oCmpL (oSO 2 a1 a2) (oSO 1 b1 b2))] [(.int b2), (.int b1), (.int 1), (.int a2), (.int a1), (.int 2), (.int (oSgn (oCmpL (oSO 2 a1 a2) (oSO 1 b1 b2))))]) (fun _ kt => st _ (zJ X hx hby at_95 rfl rfl (zJ X hx hby at_97 rfl rfl (zJ X hx hby at_99 rfl rfl (zJ X hx hby at_101 rfl rfl (zJ X hx hby at_103 rfl rfl (zJ X hx hby at_105 rfl rfl kt))))))) ?_
      obtain ⟨T, L88, X, e0, K, st⟩ := (cs30 hw).pure X hx hZ hown e0 K (A := [(.int (2 : Int32)), (.int a1), (.int a2), (.int (1 : Int32)), (.int b1), (.int b2)]) rfl (rRef_2_1 l Z a0 hw [] a1 a2 b1 b2 h Oh ) (W := 1) (by decide) hml (Ls := #[iv p0, iv p1, iv p2, iv p3, iv p4, iv 2, iv 1, iv a1, iv a2, iv b1, iv b2, rv s1, rv s2, iv (oCmpL (oSO 2 a1 a2) (oSO 1 b1 b2))]) rfl (rest := [(.int (oSgn (oCmpL (oSO 2 a1 a2) (oSO 1 b1 b2))))]) rfl rfl hby at_107
      refine oWk.to (mkF m 110 #[iv p0, iv p1, iv p2, iv p3, iv p4, iv 2, iv 1, iv a1, iv a2, iv b1, iv b2, rv s1, rv s2, iv (oCmpL (oSO 2 a1 a2) (oSO 1 b1 b2))] [(.int (oRef (2 : Int32) a1 a2 (1 : Int32) b1 b2)), (.int (oSgn (oCmpL (oSO 2 a1 a2) (oSO 1 b1 b2))))]) (fun _ kt => st _ kt) ?_
      refine oWk.to (mkF m 118 #[iv p0, iv p1, iv p2, iv p3, iv p4, iv 2, iv 1, iv a1, iv a2, iv b1, iv b2, rv s1, rv s2, iv (oCmpL (oSO 2 a1 a2) (oSO 1 b1 b2))] [(.int 1)]) (fun _ kt => zN X hx hby at_110 rfl rfl (teq (oThm 2 1 (by decide) (by decide) cp_a1 cp_a2 cp_b1 cp_b2)).2 (zK X hx hby at_113 rfl (zG X hx hby at_114 rfl (pc' := 118) rfl kt))) ?_
      exact oRetH X hx hlk hZ (oELw hw) e0 B hret (oNar01 (Or.inr rfl)) (Or.inl ⟨rfl, Or.inr (Or.inl rfl), _, rfl⟩) (hb hby at_118) (by rw [e0]; exact ⟨rfl, K.fr⟩) (by decide) (by decide)
    · show oWk _ _ _ _ T (mkF m 59 #[iv p0, iv p1, iv p2, iv p3, iv p4, iv 2, iv 2, iv a1, iv a2, iv b1, iv b2, uu, uu, uu] [])
      refine oWk.st (fun _ kt => zJ X hx hby at_59 rfl rfl (zJ X hx hby at_61 rfl rfl (zJ X hx hby at_63 rfl rfl kt))) ?_
      obtain ⟨_, T, h, Lc90, X, e0, hQ, st⟩ := (cs31 hw).run X hx hZ hown e0 (A := [(.int (2 : Int32)), (.int a1), (.int a2)]) rfl (rSt_2 l Z a0 hw [] a1 a2 xz h0 Oh S_Z hz S_A S_H S_L cp_a1 cp_a2) (W := 0) (by decide) hml (Ls := #[iv p0, iv p1, iv p2, iv p3, iv p4, iv 2, iv 2, iv a1, iv a2, iv b1, iv b2, uu, uu, uu]) rfl (rest := []) rfl rfl hby at_65
      obtain ⟨s1, rfl, K89, gn_s1, T_s1⟩ := hQ
      have ge_s1 := Nat.le_trans K.le gn_s1
      have K := K.call K89 all0
      have B := B.keep K89.1 sf0
      refine oWk.st (fun _ kt => st _ (zT X hx hby at_68 rfl rfl rfl (l' := #[iv p0, iv p1, iv p2, iv p3, iv p4, iv 2, iv 2, iv a1, iv a2, iv b1, iv b2, rv s1, uu, uu]) rfl (zJ X hx hby at_70 rfl rfl (zJ X hx hby at_72 rfl rfl (zJ X hx hby at_74 rfl rfl kt))))) ?_
      have lt_s1 := T_s1.lt
      have Oh := K.old O0 all0
      obtain ⟨_, T, h, Lc92, X, e0, hQ, st⟩ := (cs31 hw).run X hx hZ hown e0 (A := [(.int (2 : Int32)), (.int b1), (.int b2)]) rfl (rSt_2 l Z a0 hw [] b1 b2 xz h Oh S_Z hz S_A S_H S_L cp_b1 cp_b2) (W := 0) (by decide) hml (Ls := #[iv p0, iv p1, iv p2, iv p3, iv p4, iv 2, iv 2, iv a1, iv a2, iv b1, iv b2, rv s1, uu, uu]) rfl (rest := []) rfl rfl hby at_76
      obtain ⟨s2, rfl, K91, gn_s2, T_s2⟩ := hQ
      have ge_s2 := Nat.le_trans K.le gn_s2
      have ne_s1_s2 : s1 ≠ s2 := Nat.ne_of_lt (Nat.lt_of_lt_of_le lt_s1 gn_s2)
      have K := K.call K91 all0
      have B := B.keep K91.1 sf0
      refine oWk.st (fun _ kt => st _ (zT X hx hby at_79 rfl rfl rfl (l' := #[iv p0, iv p1, iv p2, iv p3, iv p4, iv 2, iv 2, iv a1, iv a2, iv b1, iv b2, rv s1, rv s2, uu]) rfl (zB X hx hby at_81 rfl rfl rfl (zB X hx hby at_83 rfl rfl rfl kt)))) ?_
      have T_s1 := (T_s1.keep0 K91.1)
      have Oh := K.old O0 all0
      obtain ⟨T, L94, X, e0, K, st⟩ := (cs28 hw).pure X hx hZ hown e0 K (A := [(.ref s1), (.ref s2)]) rfl (rCmpT l Z a0 hw [] s1 s2 xfm xz (oSO 2 a1 a2) (oSO 2 b1 b2) h Oh S_Z hz S_A S_H S_L S_F hcat T_s1 T_s2 (oSOl _ _ _) (oSOl _ _ _)) (W := 0) (by decide) hml (Ls := #[iv p0, iv p1, iv p2, iv p3, iv p4, iv 2, iv 2, iv a1, iv a2, iv b1, iv b2, rv s1, rv s2, uu]) rfl (rest := []) rfl rfl hby at_85
      refine oWk.st (fun _ kt => st _ (zS X hx hby at_88 rfl rfl (l' := #[iv p0, iv p1, iv p2, iv p3, iv p4, iv 2, iv 2, iv a1, iv a2, iv b1, iv b2, rv s1, rv s2, iv (oCmpL (oSO 2 a1 a2) (oSO 2 b1 b2))]) rfl (zJ X hx hby at_90 rfl rfl kt))) ?_
      obtain ⟨T, L96, X, e0, K, st⟩ := (cs29 hw).pure X hx hZ hown e0 K (A := [(.int (oCmpL (oSO 2 a1 a2) (oSO 2 b1 b2)))]) rfl (rSgn l Z a0 hw [] (oCmpL (oSO 2 a1 a2) (oSO 2 b1 b2)) h Oh ) (W := 0) (by decide) hml (Ls := #[iv p0, iv p1, iv p2, iv p3, iv p4, iv 2, iv 2, iv a1, iv a2, iv b1, iv b2, rv s1, rv s2, iv (oCmpL (oSO 2 a1 a2) (oSO 2 b1 b2))]) rfl (rest := []) rfl rfl hby at_92
      refine oWk.to (mkF m 107 #[iv p0, iv p1, iv p2, iv p3, iv p4, iv 2, iv 2, iv a1, iv a2, iv b1, iv b2, rv s1, rv s2, iv (oCmpL (oSO 2 a1 a2) (oSO 2 b1 b2))] [(.int b2), (.int b1), (.int 2), (.int a2), (.int a1), (.int 2), (.int (oSgn (oCmpL (oSO 2 a1 a2) (oSO 2 b1 b2))))]) (fun _ kt => st _ (zJ X hx hby at_95 rfl rfl (zJ X hx hby at_97 rfl rfl (zJ X hx hby at_99 rfl rfl (zJ X hx hby at_101 rfl rfl (zJ X hx hby at_103 rfl rfl (zJ X hx hby at_105 rfl rfl kt))))))) ?_
      obtain ⟨T, L98, X, e0, K, st⟩ := (cs30 hw).pure X hx hZ hown e0 K (A := [(.int (2 : Int32)), (.int a1), (.int a2), (.int (2 : Int32)), (.int b1), (.int b2)]) rfl (rRef_2_2 l Z a0 hw [] a1 a2 b1 b2 h Oh ) (W := 1) (by decide) hml (Ls := #[iv p0, iv p1, iv p2, iv p3, iv p4, iv 2, iv 2, iv a1, iv a2, iv b1, iv b2, rv s1, rv s2, iv (oCmpL (oSO 2 a1 a2) (oSO 2 b1 b2))]) rfl (rest := [(.int (oSgn (oCmpL (oSO 2 a1 a2) (oSO 2 b1 b2))))]) rfl rfl hby at_107
      refine oWk.to (mkF m 110 #[iv p0, iv p1, iv p2, iv p3, iv p4, iv 2, iv 2, iv a1, iv a2, iv b1, iv b2, rv s1, rv s2, iv (oCmpL (oSO 2 a1 a2) (oSO 2 b1 b2))] [(.int (oRef (2 : Int32) a1 a2 (2 : Int32) b1 b2)), (.int (oSgn (oCmpL (oSO 2 a1 a2) (oSO 2 b1 b2))))]) (fun _ kt => st _ kt) ?_
      refine oWk.to (mkF m 118 #[iv p0, iv p1, iv p2, iv p3, iv p4, iv 2, iv 2, iv a1, iv a2, iv b1, iv b2, rv s1, rv s2, iv (oCmpL (oSO 2 a1 a2) (oSO 2 b1 b2))] [(.int 1)]) (fun _ kt => zN X hx hby at_110 rfl rfl (teq (oThm 2 2 (by decide) (by decide) cp_a1 cp_a2 cp_b1 cp_b2)).2 (zK X hx hby at_113 rfl (zG X hx hby at_114 rfl (pc' := 118) rfl kt))) ?_
      exact oRetH X hx hlk hZ (oELw hw) e0 B hret (oNar01 (Or.inr rfl)) (Or.inl ⟨rfl, Or.inr (Or.inl rfl), _, rfl⟩) (hb hby at_118) (by rw [e0]; exact ⟨rfl, K.fr⟩) (by decide) (by decide)
theorem comes_1 {Post : Tables → Env → Array Value → State → Outcome → State → Prop} (hpost : ∀ tb e args s v u, (limb_1_1.after args s (.returned v) u = true ∧ limb_1_2.after args s (.returned v) u = true ∧ True) → ReturnedEndW s (.returned v) u (Jvm.fieldLocs frame_1_writes args s ++ Jvm.arrayLocs frame_1_arrays args s ++ Jvm.staticLocs frame_1_statics s) 32 1216 → Post tb e args s (.returned v) u) :
    ArmFor flags0 classFile x code maxLocals ret World_1 tables_1 room_1 Calls_1 rest_1 Pre_1 Post := by
  intro l hfl _ _ p e ha hc hk s m args below hf hA hF happ hP
  obtain ⟨hcalls, hrest, hpre⟩ := hP
  obtain ⟨-, -, -, hnamed, -, -, -, hat⟩ := (Spec.applies_iff hf).mp happ
  obtain ⟨hg, hn⟩ := and_e (Cond.before_iff.mp (show (Jvm.Cond.and given_1 narrow_1).before args s = true from hpre))
  obtain ⟨n1, n2⟩ := and_e hg
  obtain ⟨n3, n4⟩ := and_e n2
  obtain ⟨n5, n6⟩ := and_e n4
  obtain ⟨n7, n8⟩ := and_e n6
  obtain ⟨n9, n10⟩ := and_e n8
  obtain ⟨w0, w1, w2, w3, w4, rfl⟩ : ∃ w0 w1 w2 w3 w4 : Value, args = #[w0, w1, w2, w3, w4] := by
    have hs : args.size = 5 := by simpa [Cond.value, given_1] using n1
    obtain ⟨L⟩ := args
    match L, hs with
    | [w0, w1, w2, w3, w4], _ => exact ⟨w0, w1, w2, w3, w4, rfl⟩
  have hw := fun d (hd : d ∈ tables_1) => atoms_spec (ws := Jvm.Cond.code x code maxLocals ret :: tables_1) hat d (List.mem_cons_of_mem _ hd)
  have hfit : Fit s := fun {y c} hc i hi => by
    obtain ⟨ha, rfl⟩ := Array.getElem?_eq_some_iff.mp hc
    have q := List.all_eq_true.mp ((Array.all_eq_true_iff_forall_mem.mp hF) _ (Array.getElem_mem ha)) i (List.mem_range.mpr hi)
    simpa [Array.getElem?_eq_getElem hi] using q
  obtain ⟨hsets, hown0⟩ := atoms_of _ (rest_1_c_eq ▸ (show rest_1_c.before _ s = true from hrest))
  have hr0 := Cond.before_iff.mp hown0
  obtain ⟨i0, ei0⟩ := is_v n3
  obtain rfl : w0 = (.int i0) := Option.some.inj ei0
  obtain ⟨i1, ei1⟩ := is_v n5
  obtain rfl : w1 = (.int i1) := Option.some.inj ei1
  obtain ⟨i2, ei2⟩ := is_v n7
  obtain rfl : w2 = (.int i2) := Option.some.inj ei2
  obtain ⟨i3, ei3⟩ := is_v n9
  obtain rfl : w3 = (.int i3) := Option.some.inj ei3
  obtain ⟨i4, ei4⟩ := is_v n10
  obtain rfl : w4 = (.int i4) := Option.some.inj ei4
  -- hn: (Jvm.Cond.tt)
  obtain ⟨xz, vz⟩ := is_v (Cond.before_iff.mp (hsets _ (List.mem_of_getElem? (i := 1) rfl)))
  have S_Z := Sta.start vz (Or.inl (hsets _ (List.mem_of_getElem? (i := 0) rfl)))
  have hz : ¬ xz = (0 : Int32) := oNot0 vz (Cond.before_iff.mp (hsets _ (List.mem_of_getElem? (i := 2) rfl)))
  obtain ⟨xfm, vfm, hfm⟩ := isR_v (Cond.before_iff.mp (hsets _ (List.mem_of_getElem? (i := 8) rfl)))
  have S_F := Sta.start vfm (Or.inl (hsets _ (List.mem_of_getElem? (i := 7) rfl)))
  have hcat := oCat hfm
  have SA := Sta.start (oStI (Cond.before_iff.mp (hsets _ (List.mem_of_getElem? (i := 12) rfl)))) (Or.inl (hsets _ (List.mem_of_getElem? (i := 11) rfl)))
  have SH := Sta.start (oStI (Cond.before_iff.mp (hsets _ (List.mem_of_getElem? (i := 15) rfl)))) (Or.inl (hsets _ (List.mem_of_getElem? (i := 14) rfl)))
  have SL := Sta.start (oStI (Cond.before_iff.mp (hsets _ (List.mem_of_getElem? (i := 18) rfl)))) (Or.inl (hsets _ (List.mem_of_getElem? (i := 17) rfl)))
  obtain ⟨n, o, h1, h2, h3, _, L, rfl, ⟨rfl, N⟩, -, hq⟩ := rLaw l s _ hw tables_1 i0 i1 i2 i3 i4 xfm xz s.heap (oExtRefl _) S_Z hz SA SH SL S_F hcat p e ha hc hk s m _ below hf ((Spec.applies_iff_loose hf).mp happ).1 ⟨rfl, State.Warmed39.refl s, rfl, (CHv.start (oELw hw) (fun q hq => by rcases List.mem_singleton.mp hq with rfl; exact hcalls.1 _ (List.mem_of_getElem? (i := 0) rfl)) (hsets _ (List.mem_of_getElem? (i := 2) rfl)) (oW hw 28 rfl) (oW hw 15 rfl)), (fun _ q => nomatch q)⟩ trivial
  refine ⟨n, _, h1, h2, h3, hpost _ _ _ _ _ _ ⟨Cond.after_iff.mpr rfl, Cond.after_iff.mpr (eq_i res_at (Term.int_eval (1)) rfl), trivial⟩ ⟨hq.1, hq.2.1, hq.2.2.1, (hq.2.2.2.sift fun y hy => Or.inr (N y hy)).mono (by decide) (by decide)⟩⟩
theorem main_1_1 : Claimed_1_1 := comes_1 fun _ _ _ _ _ _ h hF => ⟨h.1, hF⟩
theorem main_1_2 : Claimed_1_2 := comes_1 fun _ _ _ _ _ _ h hF => ⟨h.2.1, hF⟩
end Jvm.Pilot.@@N@@
namespace Jvm.Pilot.@@N@@
open Jvm Jvm.ClassFile Sem Op Lib Jvm.Free Jvm.Stand Jvm.Pilot.@@N@@.Jvm.D
/-! MADE BY PROGRAM (witnessworld.py) out of the Statement's table words and the real class files: 24 classes; the members and pool entries that the words name. The judged class is class 1, her method 1. -/
namespace start1
open Jvm.ClassFile
def u (s : String) : CpInfo := .utf8 (stringToUtf16 s)
/-- a pool by its gaps: so many unusable entries, then the entry; so many at the end -/
def gap : Nat → List CpInfo → List CpInfo
  | 0, r => r
  | n + 1, r => .unusable :: gap n r
def poolList (es : List (Nat × CpInfo)) (last : Nat) : List CpInfo := es.foldr (fun e r => gap e.1 (e.2 :: r)) (gap last [])
def pool (es : List (Nat × CpInfo)) (last : Nat) : Array CpInfo := ⟨poolList es last⟩
def fileOf (pool : Array CpInfo) (this : Nat) (attrs : Array Attribute := #[]) (ms : Array MethodInfo := #[]) (fl : Nat := 33) (sup : Nat := 0) (ifs : Array Nat := #[]) (fds : Array FieldInfo := #[]) : ClassFile where
  minorVersion := 0
  majorVersion := 65
  constantPool := pool
  accessFlags := fl
  thisClass := this
  superClass := sup
  interfaces := ifs
  fields := fds
  methods := ms
  attributes := attrs
def plain (name : String) (sup : Option ClassId) : Class where
  name := name
  kind := .ordinary
  loader := none
  accessFlags := 33
  super := sup
  interfaces := #[]
  cf := none
  fields := #[]
  methods := #[]
  instanceTypes := #[]
  staticTypes := #[]
  resolved := #[]
  callSites := []
  init := .initialized
  statics := none
  mirror := none

def pool0 : Array CpInfo := pool [(5, u "<init>"), (0, u "()V"), (1, .class_ 10), (1, u "java/lang/Object")] 113

def k0c0 : Code := { maxStack := 0, maxLocals := 1, code := object_method_1_code, exceptionTable := #[], attributes := #[] }
def k0m0 : Method := { name := "<init>", desc := "()V", sig := { parameters := [], returnType := none }, accessFlags := 1, code := some k0c0 }
/-- java/lang/Object -/
def k0 : Class := { plain "java/lang/Object" none with
  accessFlags := 33
  interfaces := #[]
  cf := some (fileOf pool0 8 #[] #[{ accessFlags := 1, nameIndex := 5, descriptorIndex := 6, attributes := #[] }] 33 0 #[] #[])
  fields := #[]
  methods := #[k0m0]
  instanceTypes := #[]
  staticTypes := #[]
  resolved := Array.replicate 124 none
  statics := none }

def pool1 : Array CpInfo := pool [(2, .class_ 4), (1, u "java/lang/Object"), (0, u "<init>"), (0, u "()V"), (0, .methodref 8 9), (0, .class_ 10), (0, .nameAndType 11 12), (0, u "com/example/congruent/congruent/graph/CodePointOrderComparePinLaw"), (0, u "cp"), (0, u "(I)I"), (0, .methodref 8 14), (0, .nameAndType 15 16), (0, u "pick"), (0, u "(III)I"), (0, .methodref 8 18), (0, .nameAndType 19 20), (0, u "str"), (0, u "(III)Ljava/lang/String;"), (0, .methodref 22 23), (0, .class_ 24), (0, .nameAndType 25 26), (0, u "com/example/congruent/congruent/graph/CodePointOrder"), (0, u "compare"), (0, u "(Ljava/lang/String;Ljava/lang/String;)I"), (0, .methodref 8 28), (0, .nameAndType 29 12), (0, u "sign"), (0, .methodref 8 31), (0, .nameAndType 32 33), (0, u "ref"), (0, u "(IIIIII)I"), (0, .integer 2097151), (0, .integer 1114112), (0, .integer 55296), (0, .integer 57343), (0, .integer 65536), (0, .integer 56320), (0, .methodref 8 41), (0, .nameAndType 42 43), (0, u "put"), (0, u "([CII)I"), (0, .class_ 45), (0, u "java/lang/String"), (0, .methodref 44 47), (0, .nameAndType 5 48), (0, u "([C)V"), (2, u "law"), (0, u "(IIIII)Z")] 5

def k1m0 : Method := { name := "<init>", desc := "()V", sig := { parameters := [], returnType := none }, accessFlags := 2, code := none }
def k1c1 : Code := { maxStack := 7, maxLocals := 14, code := code, exceptionTable := #[], attributes := #[] }
def k1m1 : Method := { name := "law", desc := "(IIIII)Z", sig := { parameters := [.int, .int, .int, .int, .int], returnType := some .boolean }, accessFlags := 9, code := some k1c1 }
def k1c2 : Code := { maxStack := 2, maxLocals := 2, code := method_3_code, exceptionTable := #[], attributes := #[] }
def k1m2 : Method := { name := "cp", desc := "(I)I", sig := { parameters := [.int], returnType := some .int }, accessFlags := 10, code := some k1c2 }
def k1c3 : Code := { maxStack := 3, maxLocals := 3, code := method_4_code, exceptionTable := #[], attributes := #[] }
def k1m3 : Method := { name := "pick", desc := "(III)I", sig := { parameters := [.int, .int, .int], returnType := some .int }, accessFlags := 10, code := some k1c3 }
def k1c4 : Code := { maxStack := 1, maxLocals := 1, code := method_5_code, exceptionTable := #[], attributes := #[] }
def k1m4 : Method := { name := "sign", desc := "(I)I", sig := { parameters := [.int], returnType := some .int }, accessFlags := 10, code := some k1c4 }
def k1c5 : Code := { maxStack := 2, maxLocals := 6, code := method_6_code, exceptionTable := #[], attributes := #[] }
def k1m5 : Method := { name := "ref", desc := "(IIIIII)I", sig := { parameters := [.int, .int, .int, .int, .int, .int], returnType := some .int }, accessFlags := 10, code := some k1c5 }
def k1c6 : Code := { maxStack := 5, maxLocals := 4, code := method_7_code, exceptionTable := #[], attributes := #[] }
def k1m6 : Method := { name := "put", desc := "([CII)I", sig := { parameters := [(.array .char), .int, .int], returnType := some .int }, accessFlags := 10, code := some k1c6 }
def k1c7 : Code := { maxStack := 7, maxLocals := 5, code := method_8_code, exceptionTable := #[], attributes := #[] }
def k1m7 : Method := { name := "str", desc := "(III)Ljava/lang/String;", sig := { parameters := [.int, .int, .int], returnType := some (.object "java/lang/String") }, accessFlags := 10, code := some k1c7 }
/-- com/example/congruent/congruent/graph/CodePointOrderComparePinLaw -/
def k1 : Class := { plain "com/example/congruent/congruent/graph/CodePointOrderComparePinLaw" (some 0) with
  accessFlags := 49
  interfaces := #[]
  cf := some (fileOf pool1 8 #[] #[{ accessFlags := 2, nameIndex := 5, descriptorIndex := 6, attributes := #[] }, { accessFlags := 9, nameIndex := 51, descriptorIndex := 52, attributes := #[] }, { accessFlags := 10, nameIndex := 11, descriptorIndex := 12, attributes := #[] }, { accessFlags := 10, nameIndex := 15, descriptorIndex := 16, attributes := #[] }, { accessFlags := 10, nameIndex := 29, descriptorIndex := 12, attributes := #[] }, { accessFlags := 10, nameIndex := 32, descriptorIndex := 33, attributes := #[] }, { accessFlags := 10, nameIndex := 42, descriptorIndex := 43, attributes := #[] }, { accessFlags := 10, nameIndex := 19, descriptorIndex := 20, attributes := #[] }] 49 2 #[] #[])
  fields := #[]
  methods := #[k1m0, k1m1, k1m2, k1m3, k1m4, k1m5, k1m6, k1m7]
  instanceTypes := #[]
  staticTypes := #[]
  resolved := Array.replicate 58 none
  statics := none }

def pool2 : Array CpInfo := pool [(1, .class_ 2), (0, u "java/io/Serializable"), (0, .class_ 4), (0, u "java/lang/Object")] 2

/-- java/io/Serializable -/
def k2 : Class := { plain "java/io/Serializable" (some 0) with
  accessFlags := 1537
  interfaces := #[]
  cf := some (fileOf pool2 1 #[] #[] 1537 3 #[] #[])
  fields := #[]
  methods := #[]
  instanceTypes := #[]
  staticTypes := #[]
  resolved := Array.replicate 7 none
  statics := none }

def pool3 : Array CpInfo := pool [(1, .class_ 2), (0, u "java/lang/Comparable"), (0, .class_ 4), (0, u "java/lang/Object")] 7

/-- java/lang/Comparable -/
def k3 : Class := { plain "java/lang/Comparable" (some 0) with
  accessFlags := 1537
  interfaces := #[]
  cf := some (fileOf pool3 1 #[] #[] 1537 3 #[] #[])
  fields := #[]
  methods := #[]
  instanceTypes := #[]
  staticTypes := #[]
  resolved := Array.replicate 12 none
  statics := none }

def pool4 : Array CpInfo := pool [(2, .class_ 4), (1, u "java/lang/CharSequence"), (42, .class_ 48), (0, u "java/lang/CharSequence$1CodePointIterator"), (10, .class_ 60), (0, u "java/lang/CharSequence$1CharIterator"), (5, .class_ 67), (0, u "java/lang/Object")] 63

/-- java/lang/CharSequence -/
def k4 : Class := { plain "java/lang/CharSequence" (some 0) with
  accessFlags := 1537
  interfaces := #[]
  cf := some (fileOf pool4 2 #[.nestMembers #[47, 59]] #[] 1537 66 #[] #[])
  fields := #[]
  methods := #[]
  instanceTypes := #[]
  staticTypes := #[]
  resolved := Array.replicate 131 none
  statics := none }

def pool5 : Array CpInfo := pool [(1, .class_ 2), (0, u "java/lang/constant/Constable"), (0, .class_ 4), (0, u "java/lang/Object")] 6

/-- java/lang/constant/Constable -/
def k5 : Class := { plain "java/lang/constant/Constable" (some 0) with
  accessFlags := 1537
  interfaces := #[]
  cf := some (fileOf pool5 1 #[] #[] 1537 3 #[] #[])
  fields := #[]
  methods := #[]
  instanceTypes := #[]
  staticTypes := #[]
  resolved := Array.replicate 11 none
  statics := none }

def pool6 : Array CpInfo := pool [(1, .class_ 2), (0, u "java/lang/constant/ConstantDesc"), (0, .class_ 4), (0, u "java/lang/Object")] 32

/-- java/lang/constant/ConstantDesc -/
def k6 : Class := { plain "java/lang/constant/ConstantDesc" (some 0) with
  accessFlags := 1537
  interfaces := #[]
  cf := some (fileOf pool6 1 #[] #[] 1537 3 #[] #[])
  fields := #[]
  methods := #[]
  instanceTypes := #[]
  staticTypes := #[]
  resolved := Array.replicate 37 none
  statics := none }

def pool7 : Array CpInfo := pool [(1, .methodref 2 3), (0, .class_ 4), (0, .nameAndType 5 6), (0, u "java/lang/Object"), (0, u "<init>"), (0, u "()V"), (0, .string 8), (0, u ""), (0, .fieldref 10 11), (0, .class_ 12), (0, .nameAndType 13 14), (0, u "java/lang/String"), (0, u "value"), (0, u "[B"), (0, .fieldref 10 16), (0, .nameAndType 17 18), (0, u "coder"), (0, u "B"), (2, u "hash"), (0, u "I"), (2, u "hashIsZero"), (0, u "Z"), (0, .methodref 10 28), (0, .nameAndType 5 29), (0, u "([CIILjava/lang/Void;)V"), (8, .fieldref 10 39), (0, .nameAndType 40 26), (0, u "COMPACT_STRINGS"), (1, .class_ 44), (1, u "java/lang/StringUTF16"), (0, u "compress"), (1, .methodref 42 48), (0, .nameAndType 49 50), (0, u "coderFromArrayLen"), (0, u "([BI)B"), (56, .class_ 109), (1, u "java/lang/StringLatin1"), (32, u "()Z"), (34, .methodref 42 178), (0, .nameAndType 45 179), (0, u "([CII)[B"), (154, u "()I"), (0, .methodref 10 336), (0, .nameAndType 17 337), (0, u "()B"), (25, u "([BI)C"), (27, u "(II)V"), (35, u "(I)C"), (64, .methodref 10 493), (0, .nameAndType 494 142), (0, u "isLatin1"), (0, .methodref 107 496), (0, .nameAndType 497 363), (0, u "charAt"), (0, .methodref 42 496), (2, u "checkIndex"), (5, u "length"), (67, .class_ 576), (0, u "java/lang/CharSequence"), (22, u "CASE_INSENSITIVE_ORDER"), (0, u "Ljava/util/Comparator;"), (409, u "([C)V"), (42, .fieldref 1054 1055), (0, .class_ 1056), (0, .nameAndType 1057 1058), (0, u "jdk/internal/util/Preconditions"), (0, u "SIOOBE_FORMATTER"), (0, u "Ljava/util/function/BiFunction;"), (0, .methodref 1054 1060), (0, .nameAndType 501 1061), (0, u "(IILjava/util/function/BiFunction;)I"), (39, u "serialPersistentFields"), (0, u "[Ljava/io/ObjectStreamField;"), (0, .class_ 1104), (0, u "java/lang/String$CaseInsensitiveComparator"), (1, .class_ 1107), (0, u "java/io/Serializable"), (0, .class_ 1109), (0, u "java/lang/Comparable"), (0, .class_ 1111), (0, u "java/lang/constant/Constable"), (0, .class_ 1113), (0, u "java/lang/constant/ConstantDesc"), (2, u "serialVersionUID"), (0, u "J"), (3, u "REPL"), (0, u "C"), (2, u "LATIN1"), (1, u "UTF16")] 323

def k7m0 : Method := { name := "<init>", desc := "()V", sig := { parameters := [], returnType := none }, accessFlags := 1, code := none }
def k7c1 : Code := { maxStack := 5, maxLocals := 2, code := jdk_42_method_3_code, exceptionTable := #[], attributes := #[] }
def k7m1 : Method := { name := "<init>", desc := "([C)V", sig := { parameters := [(.array .char)], returnType := none }, accessFlags := 1, code := some k7c1 }
def k7c2 : Code := { maxStack := 2, maxLocals := 1, code := jdk_42_method_54_code, exceptionTable := #[], attributes := #[] }
def k7m2 : Method := { name := "length", desc := "()I", sig := { parameters := [], returnType := some .int }, accessFlags := 1, code := some k7c2 }
def k7c3 : Code := { maxStack := 2, maxLocals := 2, code := jdk_42_method_56_code, exceptionTable := #[], attributes := #[] }
def k7m3 : Method := { name := "charAt", desc := "(I)C", sig := { parameters := [.int], returnType := some .char }, accessFlags := 1, code := some k7c3 }
def k7c4 : Code := { maxStack := 4, maxLocals := 6, code := jdk_42_method_149_code, exceptionTable := #[], attributes := #[] }
def k7m4 : Method := { name := "<init>", desc := "([CIILjava/lang/Void;)V", sig := { parameters := [(.array .char), .int, .int, (.object "java/lang/Void")], returnType := none }, accessFlags := 2, code := some k7c4 }
def k7c5 : Code := { maxStack := 1, maxLocals := 1, code := jdk_42_method_152_code, exceptionTable := #[], attributes := #[] }
def k7m5 : Method := { name := "coder", desc := "()B", sig := { parameters := [], returnType := some .byte }, accessFlags := 0, code := some k7c5 }
def k7c6 : Code := { maxStack := 1, maxLocals := 1, code := jdk_42_method_154_code, exceptionTable := #[], attributes := #[] }
def k7m6 : Method := { name := "isLatin1", desc := "()Z", sig := { parameters := [], returnType := some .boolean }, accessFlags := 0, code := some k7c6 }
def k7c7 : Code := { maxStack := 3, maxLocals := 2, code := jdk_42_method_155_code, exceptionTable := #[], attributes := #[] }
def k7m7 : Method := { name := "checkIndex", desc := "(II)V", sig := { parameters := [.int, .int], returnType := none }, accessFlags := 8, code := some k7c7 }
/-- java/lang/String -/
def k7 : Class := { plain "java/lang/String" (some 0) with
  accessFlags := 49
  interfaces := #[2, 3, 4, 5, 6]
  cf := some (fileOf pool7 10 #[.nestMembers #[1103]] #[{ accessFlags := 1, nameIndex := 5, descriptorIndex := 6, attributes := #[] }, { accessFlags := 1, nameIndex := 5, descriptorIndex := 1010, attributes := #[] }, { accessFlags := 1, nameIndex := 507, descriptorIndex := 334, attributes := #[] }, { accessFlags := 1, nameIndex := 497, descriptorIndex := 427, attributes := #[] }, { accessFlags := 2, nameIndex := 5, descriptorIndex := 29, attributes := #[] }, { accessFlags := 0, nameIndex := 17, descriptorIndex := 337, attributes := #[] }, { accessFlags := 0, nameIndex := 494, descriptorIndex := 142, attributes := #[] }, { accessFlags := 8, nameIndex := 501, descriptorIndex := 391, attributes := #[] }] 49 2 #[1106, 1108, 575, 1110, 1112] #[{ accessFlags := 18, nameIndex := 13, descriptorIndex := 14, attributes := #[] }, { accessFlags := 18, nameIndex := 17, descriptorIndex := 18, attributes := #[] }, { accessFlags := 2, nameIndex := 21, descriptorIndex := 22, attributes := #[] }, { accessFlags := 2, nameIndex := 25, descriptorIndex := 26, attributes := #[] }, { accessFlags := 26, nameIndex := 1116, descriptorIndex := 1117, attributes := #[] }, { accessFlags := 24, nameIndex := 40, descriptorIndex := 26, attributes := #[] }, { accessFlags := 26, nameIndex := 1101, descriptorIndex := 1102, attributes := #[] }, { accessFlags := 26, nameIndex := 1121, descriptorIndex := 1122, attributes := #[] }, { accessFlags := 25, nameIndex := 599, descriptorIndex := 600, attributes := #[] }, { accessFlags := 24, nameIndex := 1125, descriptorIndex := 18, attributes := #[] }, { accessFlags := 24, nameIndex := 1127, descriptorIndex := 18, attributes := #[] }])
  fields := #[{ name := "value", type := (.array .byte), accessFlags := 18, slot := 0, constantValue := 0 }, { name := "coder", type := .byte, accessFlags := 18, slot := 1, constantValue := 0 }, { name := "hash", type := .int, accessFlags := 2, slot := 2, constantValue := 0 }, { name := "hashIsZero", type := .boolean, accessFlags := 2, slot := 3, constantValue := 0 }, { name := "serialVersionUID", type := .long, accessFlags := 26, slot := 0, constantValue := 0 }, { name := "COMPACT_STRINGS", type := .boolean, accessFlags := 24, slot := 1, constantValue := 0 }, { name := "serialPersistentFields", type := (.array (.object "java/io/ObjectStreamField")), accessFlags := 26, slot := 2, constantValue := 0 }, { name := "REPL", type := .char, accessFlags := 26, slot := 3, constantValue := 0 }, { name := "CASE_INSENSITIVE_ORDER", type := (.object "java/util/Comparator"), accessFlags := 25, slot := 4, constantValue := 0 }, { name := "LATIN1", type := .byte, accessFlags := 24, slot := 5, constantValue := 0 }, { name := "UTF16", type := .byte, accessFlags := 24, slot := 6, constantValue := 0 }]
  methods := #[k7m0, k7m1, k7m2, k7m3, k7m4, k7m5, k7m6, k7m7]
  instanceTypes := #[(.array .byte), .byte, .int, .boolean]
  staticTypes := #[.long, .boolean, (.array (.object "java/io/ObjectStreamField")), .char, (.object "java/util/Comparator"), .byte, .byte]
  resolved := Array.replicate 1451 none
  statics := some 0 }

def pool8 : Array CpInfo := pool [(2, .class_ 4), (1, u "java/lang/Object"), (0, u "<init>"), (0, u "()V"), (0, .methodref 8 9), (0, .class_ 10), (0, .nameAndType 11 12), (0, u "java/lang/String"), (0, u "length"), (0, u "()I"), (0, .methodref 14 15), (0, .class_ 16), (0, .nameAndType 17 18), (0, u "java/lang/Math"), (0, u "min"), (0, u "(II)I"), (0, .methodref 8 20), (0, .nameAndType 21 22), (0, u "charAt"), (0, u "(I)C"), (0, .methodref 24 25), (0, .class_ 26), (0, .nameAndType 27 28), (0, u "java/lang/Character"), (0, u "isSurrogate"), (0, u "(C)Z"), (0, .methodref 24 30), (0, .nameAndType 31 32), (0, u "compare"), (0, u "(CC)I"), (0, .methodref 34 35), (0, .class_ 36), (0, .nameAndType 31 18), (0, u "java/lang/Integer"), (4, .class_ 43), (1, u "com/example/congruent/congruent/graph/CodePointOrder"), (0, u "COMPARATOR"), (0, u "Ljava/util/Comparator;"), (4, u "(Ljava/lang/String;Ljava/lang/String;)I")] 24

def k8m0 : Method := { name := "<init>", desc := "()V", sig := { parameters := [], returnType := none }, accessFlags := 2, code := none }
def k8c1 : Code := { maxStack := 2, maxLocals := 7, code := prog_39_method_2_code, exceptionTable := #[], attributes := #[] }
def k8m1 : Method := { name := "compare", desc := "(Ljava/lang/String;Ljava/lang/String;)I", sig := { parameters := [(.object "java/lang/String"), (.object "java/lang/String")], returnType := some .int }, accessFlags := 9, code := some k8c1 }
/-- com/example/congruent/congruent/graph/CodePointOrder -/
def k8 : Class := { plain "com/example/congruent/congruent/graph/CodePointOrder" (some 0) with
  accessFlags := 49
  interfaces := #[]
  cf := some (fileOf pool8 41 #[] #[{ accessFlags := 2, nameIndex := 5, descriptorIndex := 6, attributes := #[] }, { accessFlags := 9, nameIndex := 31, descriptorIndex := 50, attributes := #[] }] 49 2 #[] #[{ accessFlags := 25, nameIndex := 44, descriptorIndex := 45, attributes := #[] }])
  fields := #[{ name := "COMPARATOR", type := (.object "java/util/Comparator"), accessFlags := 25, slot := 0, constantValue := 0 }]
  methods := #[k8m0, k8m1]
  instanceTypes := #[]
  staticTypes := #[(.object "java/util/Comparator")]
  resolved := Array.replicate 75 none
  statics := none }

def pool9 : Array CpInfo := pool [(1, .class_ 2), (0, u "java/lang/Math"), (1, .class_ 6), (1, u "java/lang/Object"), (0, u "<init>"), (0, u "()V"), (89, .class_ 100), (1, u "java/lang/Math$RandomNumberGeneratorHolder"), (71, u "negativeZeroFloatBits"), (0, u "J"), (2, u "negativeZeroDoubleBits"), (24, u "min"), (43, u "$assertionsDisabled"), (0, u "Z"), (88, u "(II)I"), (2, u "twoToTheDoubleScaleDown"), (0, u "D"), (4, u "twoToTheDoubleScaleUp"), (9, u "E"), (3, u "PI"), (2, u "TAU"), (2, u "DEGREES_TO_RADIANS"), (0, u "RADIANS_TO_DEGREES")] 94

def k9m0 : Method := { name := "<init>", desc := "()V", sig := { parameters := [], returnType := none }, accessFlags := 2, code := none }
def k9c1 : Code := { maxStack := 2, maxLocals := 2, code := jdk_29_method_69_code, exceptionTable := #[], attributes := #[] }
def k9m1 : Method := { name := "min", desc := "(II)I", sig := { parameters := [.int, .int], returnType := some .int }, accessFlags := 9, code := some k9c1 }
/-- java/lang/Math -/
def k9 : Class := { plain "java/lang/Math" (some 0) with
  accessFlags := 49
  interfaces := #[]
  cf := some (fileOf pool9 1 #[.nestMembers #[98]] #[{ accessFlags := 2, nameIndex := 7, descriptorIndex := 8, attributes := #[] }, { accessFlags := 9, nameIndex := 201, descriptorIndex := 335, attributes := #[] }] 49 4 #[] #[{ accessFlags := 25, nameIndex := 354, descriptorIndex := 339, attributes := #[] }, { accessFlags := 25, nameIndex := 358, descriptorIndex := 339, attributes := #[] }, { accessFlags := 25, nameIndex := 361, descriptorIndex := 339, attributes := #[] }, { accessFlags := 26, nameIndex := 364, descriptorIndex := 339, attributes := #[] }, { accessFlags := 26, nameIndex := 365, descriptorIndex := 339, attributes := #[] }, { accessFlags := 26, nameIndex := 172, descriptorIndex := 173, attributes := #[] }, { accessFlags := 26, nameIndex := 176, descriptorIndex := 173, attributes := #[] }, { accessFlags := 8, nameIndex := 344, descriptorIndex := 339, attributes := #[] }, { accessFlags := 8, nameIndex := 338, descriptorIndex := 339, attributes := #[] }, { accessFlags := 4120, nameIndex := 245, descriptorIndex := 246, attributes := #[] }])
  fields := #[{ name := "E", type := .double, accessFlags := 25, slot := 0, constantValue := 0 }, { name := "PI", type := .double, accessFlags := 25, slot := 1, constantValue := 0 }, { name := "TAU", type := .double, accessFlags := 25, slot := 2, constantValue := 0 }, { name := "DEGREES_TO_RADIANS", type := .double, accessFlags := 26, slot := 3, constantValue := 0 }, { name := "RADIANS_TO_DEGREES", type := .double, accessFlags := 26, slot := 4, constantValue := 0 }, { name := "negativeZeroFloatBits", type := .long, accessFlags := 26, slot := 5, constantValue := 0 }, { name := "negativeZeroDoubleBits", type := .long, accessFlags := 26, slot := 6, constantValue := 0 }, { name := "twoToTheDoubleScaleUp", type := .double, accessFlags := 8, slot := 7, constantValue := 0 }, { name := "twoToTheDoubleScaleDown", type := .double, accessFlags := 8, slot := 8, constantValue := 0 }, { name := "$assertionsDisabled", type := .boolean, accessFlags := 4120, slot := 9, constantValue := 0 }]
  methods := #[k9m0, k9m1]
  instanceTypes := #[]
  staticTypes := #[.double, .double, .double, .double, .double, .long, .long, .double, .double, .boolean]
  resolved := Array.replicate 460 none
  statics := none }

def pool10 : Array CpInfo := pool [(2, .class_ 4), (1, u "java/lang/Object"), (0, u "<init>"), (0, u "()V"), (1, .class_ 10), (1, u "java/lang/Number"), (2, .class_ 14), (0, u "java/io/Serializable"), (0, u "serialVersionUID"), (0, u "J")] 20

def k10m0 : Method := { name := "<init>", desc := "()V", sig := { parameters := [], returnType := none }, accessFlags := 1, code := none }
/-- java/lang/Number -/
def k10 : Class := { plain "java/lang/Number" (some 0) with
  accessFlags := 1057
  interfaces := #[2]
  cf := some (fileOf pool10 8 #[] #[{ accessFlags := 1, nameIndex := 5, descriptorIndex := 6, attributes := #[] }] 1057 2 #[13] #[{ accessFlags := 26, nameIndex := 15, descriptorIndex := 16, attributes := #[] }])
  fields := #[{ name := "serialVersionUID", type := .long, accessFlags := 26, slot := 0, constantValue := 0 }]
  methods := #[k10m0]
  instanceTypes := #[]
  staticTypes := #[.long]
  resolved := Array.replicate 37 none
  statics := none }

def pool11 : Array CpInfo := pool [(1, .class_ 2), (0, u "java/lang/Integer"), (16, u "digits"), (0, u "[C"), (39, u "(II)I"), (24, u "DigitOnes"), (0, u "[B"), (2, u "DigitTens"), (99, .class_ 190), (0, u "java/lang/Integer$IntegerCache"), (3, u "I"), (8, .class_ 204), (0, u "java/lang/Number"), (2, u "value"), (53, u "compare"), (40, u "TYPE"), (0, u "Ljava/lang/Class;"), (0, .class_ 305), (0, u "java/lang/Comparable"), (0, .class_ 307), (0, u "java/lang/constant/Constable"), (0, .class_ 309), (0, u "java/lang/constant/ConstantDesc"), (0, u "MIN_VALUE"), (1, u "MAX_VALUE"), (3, u "SIZE"), (1, u "BYTES"), (1, u "serialVersionUID"), (0, u "J")] 131

def k11c0 : Code := { maxStack := 2, maxLocals := 2, code := jdk_33_method_40_code, exceptionTable := #[], attributes := #[] }
def k11m0 : Method := { name := "compare", desc := "(II)I", sig := { parameters := [.int, .int], returnType := some .int }, accessFlags := 9, code := some k11c0 }
/-- java/lang/Integer -/
def k11 : Class := { plain "java/lang/Integer" (some 10) with
  accessFlags := 49
  interfaces := #[3, 5, 6]
  cf := some (fileOf pool11 1 #[.nestMembers #[189]] #[{ accessFlags := 9, nameIndex := 261, descriptorIndex := 60, attributes := #[] }] 49 203 #[304, 306, 308] #[{ accessFlags := 25, nameIndex := 310, descriptorIndex := 194, attributes := #[] }, { accessFlags := 25, nameIndex := 312, descriptorIndex := 194, attributes := #[] }, { accessFlags := 25, nameIndex := 302, descriptorIndex := 303, attributes := #[] }, { accessFlags := 24, nameIndex := 19, descriptorIndex := 20, attributes := #[] }, { accessFlags := 24, nameIndex := 89, descriptorIndex := 86, attributes := #[] }, { accessFlags := 24, nameIndex := 85, descriptorIndex := 86, attributes := #[] }, { accessFlags := 18, nameIndex := 207, descriptorIndex := 194, attributes := #[] }, { accessFlags := 25, nameIndex := 316, descriptorIndex := 194, attributes := #[] }, { accessFlags := 25, nameIndex := 318, descriptorIndex := 194, attributes := #[] }, { accessFlags := 26, nameIndex := 320, descriptorIndex := 321, attributes := #[] }])
  fields := #[{ name := "MIN_VALUE", type := .int, accessFlags := 25, slot := 0, constantValue := 0 }, { name := "MAX_VALUE", type := .int, accessFlags := 25, slot := 1, constantValue := 0 }, { name := "TYPE", type := (.object "java/lang/Class"), accessFlags := 25, slot := 2, constantValue := 0 }, { name := "digits", type := (.array .char), accessFlags := 24, slot := 3, constantValue := 0 }, { name := "DigitTens", type := (.array .byte), accessFlags := 24, slot := 4, constantValue := 0 }, { name := "DigitOnes", type := (.array .byte), accessFlags := 24, slot := 5, constantValue := 0 }, { name := "value", type := .int, accessFlags := 18, slot := 0, constantValue := 0 }, { name := "SIZE", type := .int, accessFlags := 25, slot := 6, constantValue := 0 }, { name := "BYTES", type := .int, accessFlags := 25, slot := 7, constantValue := 0 }, { name := "serialVersionUID", type := .long, accessFlags := 26, slot := 8, constantValue := 0 }]
  methods := #[k11m0]
  instanceTypes := #[.int]
  staticTypes := #[.int, .int, (.object "java/lang/Class"), (.array .char), (.array .byte), (.array .byte), .int, .int, .long]
  resolved := Array.replicate 453 none
  statics := none }

def pool12 : Array CpInfo := pool [(3, .class_ 4), (0, u "java/lang/String"), (1, .class_ 8), (1, u "java/lang/Object"), (0, u "<init>"), (0, u "()V"), (0, .methodref 12 13), (0, .class_ 14), (0, .nameAndType 15 16), (0, u "java/lang/StringUTF16"), (0, u "newBytesLength"), (0, u "(I)I"), (3, .integer 1073741823), (23, .fieldref 12 45), (0, .nameAndType 46 47), (0, u "$assertionsDisabled"), (0, u "Z"), (0, .methodref 12 49), (0, .nameAndType 50 51), (0, u "length"), (0, u "([B)I"), (7, .fieldref 12 60), (0, .nameAndType 61 62), (0, u "HI_BYTE_SHIFT"), (0, u "I"), (0, .fieldref 12 64), (0, .nameAndType 65 62), (0, u "LO_BYTE_SHIFT"), (1, .methodref 12 68), (0, .nameAndType 69 70), (0, u "checkIndex"), (0, u "(I[B)V"), (0, .methodref 12 72), (0, .nameAndType 73 74), (0, u "getChar"), (0, u "([BI)C"), (32, .methodref 12 108), (0, .nameAndType 109 110), (0, u "newBytesFor"), (0, u "(I)[B"), (0, .methodref 12 112), (0, .nameAndType 113 114), (0, u "putChar"), (0, u "([BII)V"), (0, .methodref 12 116), (0, .nameAndType 117 118), (0, u "compress"), (0, u "([CI[BII)I"), (0, .methodref 12 120), (0, .nameAndType 121 122), (0, u "toBytes"), (0, u "([CII)[B"), (138, u "coderFromArrayLen"), (0, u "([BI)B"), (106, .class_ 371), (1, u "java/lang/StringUTF16$LinesSpliterator"), (20, u "charAt"), (21, .methodref 3 415), (0, .nameAndType 69 416), (0, u "(II)V"), (13, u "MAX_LENGTH"), (196, .class_ 628), (0, u "java/lang/StringUTF16$CodePointsSpliterator"), (0, .class_ 630), (0, u "java/lang/StringUTF16$CharsSpliterator")] 4

def k12m0 : Method := { name := "<init>", desc := "()V", sig := { parameters := [], returnType := none }, accessFlags := 0, code := none }
def k12c1 : Code := { maxStack := 1, maxLocals := 1, code := jdk_52_method_2_code, exceptionTable := #[], attributes := #[] }
def k12m1 : Method := { name := "newBytesFor", desc := "(I)[B", sig := { parameters := [.int], returnType := some (.array .byte) }, accessFlags := 9, code := some k12c1 }
def k12c2 : Code := { maxStack := 4, maxLocals := 1, code := jdk_52_method_3_code, exceptionTable := #[], attributes := #[] }
def k12m2 : Method := { name := "newBytesLength", desc := "(I)I", sig := { parameters := [.int], returnType := some .int }, accessFlags := 9, code := some k12c2 }
def k12c3 : Code := { maxStack := 4, maxLocals := 3, code := jdk_52_method_4_code, exceptionTable := #[], attributes := #[] }
def k12m3 : Method := { name := "putChar", desc := "([BII)V", sig := { parameters := [(.array .byte), .int, .int], returnType := none }, accessFlags := 8, code := some k12c3 }
def k12c4 : Code := { maxStack := 3, maxLocals := 2, code := jdk_52_method_5_code, exceptionTable := #[], attributes := #[] }
def k12m4 : Method := { name := "getChar", desc := "([BI)C", sig := { parameters := [(.array .byte), .int], returnType := some .char }, accessFlags := 8, code := some k12c4 }
def k12c5 : Code := { maxStack := 2, maxLocals := 1, code := jdk_52_method_6_code, exceptionTable := #[], attributes := #[] }
def k12m5 : Method := { name := "length", desc := "([B)I", sig := { parameters := [(.array .byte)], returnType := some .int }, accessFlags := 9, code := some k12c5 }
def k12c6 : Code := { maxStack := 4, maxLocals := 5, code := jdk_52_method_14_code, exceptionTable := #[], attributes := #[] }
def k12m6 : Method := { name := "toBytes", desc := "([CII)[B", sig := { parameters := [(.array .char), .int, .int], returnType := some (.array .byte) }, accessFlags := 9, code := some k12c6 }
def k12c7 : Code := { maxStack := 2, maxLocals := 2, code := jdk_52_method_15_code, exceptionTable := #[], attributes := #[] }
def k12m7 : Method := { name := "coderFromArrayLen", desc := "([BI)B", sig := { parameters := [(.array .byte), .int], returnType := some .byte }, accessFlags := 8, code := some k12c7 }
def k12c8 : Code := { maxStack := 5, maxLocals := 6, code := jdk_52_method_16_code, exceptionTable := #[], attributes := #[] }
def k12m8 : Method := { name := "compress", desc := "([CII)[B", sig := { parameters := [(.array .char), .int, .int], returnType := some (.array .byte) }, accessFlags := 9, code := some k12c8 }
def k12c9 : Code := { maxStack := 3, maxLocals := 7, code := jdk_52_method_21_code, exceptionTable := #[], attributes := #[] }
def k12m9 : Method := { name := "compress", desc := "([CI[BII)I", sig := { parameters := [(.array .char), .int, (.array .byte), .int, .int], returnType := some .int }, accessFlags := 9, code := some k12c9 }
def k12c10 : Code := { maxStack := 2, maxLocals := 2, code := jdk_52_method_83_code, exceptionTable := #[], attributes := #[] }
def k12m10 : Method := { name := "charAt", desc := "([BI)C", sig := { parameters := [(.array .byte), .int], returnType := some .char }, accessFlags := 9, code := some k12c10 }
def k12c11 : Code := { maxStack := 2, maxLocals := 2, code := jdk_52_method_91_code, exceptionTable := #[], attributes := #[] }
def k12m11 : Method := { name := "checkIndex", desc := "(I[B)V", sig := { parameters := [.int, (.array .byte)], returnType := none }, accessFlags := 9, code := some k12c11 }
/-- java/lang/StringUTF16 -/
def k12 : Class := { plain "java/lang/StringUTF16" (some 0) with
  accessFlags := 48
  interfaces := #[]
  cf := some (fileOf pool12 12 #[.nestMembers #[627, 629, 369]] #[{ accessFlags := 0, nameIndex := 9, descriptorIndex := 10, attributes := #[] }, { accessFlags := 9, nameIndex := 109, descriptorIndex := 110, attributes := #[] }, { accessFlags := 9, nameIndex := 15, descriptorIndex := 16, attributes := #[] }, { accessFlags := 8, nameIndex := 113, descriptorIndex := 114, attributes := #[] }, { accessFlags := 8, nameIndex := 73, descriptorIndex := 74, attributes := #[] }, { accessFlags := 9, nameIndex := 50, descriptorIndex := 51, attributes := #[] }, { accessFlags := 9, nameIndex := 121, descriptorIndex := 122, attributes := #[] }, { accessFlags := 8, nameIndex := 261, descriptorIndex := 262, attributes := #[] }, { accessFlags := 9, nameIndex := 117, descriptorIndex := 122, attributes := #[] }, { accessFlags := 9, nameIndex := 117, descriptorIndex := 118, attributes := #[] }, { accessFlags := 9, nameIndex := 392, descriptorIndex := 74, attributes := #[] }, { accessFlags := 9, nameIndex := 69, descriptorIndex := 70, attributes := #[] }] 48 6 #[] #[{ accessFlags := 26, nameIndex := 61, descriptorIndex := 62, attributes := #[] }, { accessFlags := 26, nameIndex := 65, descriptorIndex := 62, attributes := #[] }, { accessFlags := 24, nameIndex := 430, descriptorIndex := 62, attributes := #[] }, { accessFlags := 4120, nameIndex := 46, descriptorIndex := 47, attributes := #[] }])
  fields := #[{ name := "HI_BYTE_SHIFT", type := .int, accessFlags := 26, slot := 0, constantValue := 0 }, { name := "LO_BYTE_SHIFT", type := .int, accessFlags := 26, slot := 1, constantValue := 0 }, { name := "MAX_LENGTH", type := .int, accessFlags := 24, slot := 2, constantValue := 0 }, { name := "$assertionsDisabled", type := .boolean, accessFlags := 4120, slot := 3, constantValue := 0 }]
  methods := #[k12m0, k12m1, k12m2, k12m3, k12m4, k12m5, k12m6, k12m7, k12m8, k12m9, k12m10, k12m11]
  instanceTypes := #[]
  staticTypes := #[.int, .int, .int, .boolean]
  resolved := Array.replicate 635 none
  statics := some 1 }

def pool13 : Array CpInfo := pool [(2, .class_ 4), (1, u "java/lang/Object"), (0, u "<init>"), (0, u "()V"), (17, .class_ 26), (1, u "jdk/internal/util/Preconditions"), (6, u "checkIndex"), (21, .class_ 56), (0, u "jdk/internal/util/Preconditions$4"), (57, .class_ 115), (0, u "jdk/internal/util/Preconditions$1"), (7, u "SIOOBE_FORMATTER"), (0, u "Ljava/util/function/BiFunction;"), (0, .class_ 126), (0, u "jdk/internal/util/Preconditions$2"), (3, u "AIOOBE_FORMATTER"), (0, .class_ 132), (0, u "jdk/internal/util/Preconditions$3"), (3, u "IOOBE_FORMATTER"), (41, u "(IILjava/util/function/BiFunction;)I")] 15

def k13m0 : Method := { name := "<init>", desc := "()V", sig := { parameters := [], returnType := none }, accessFlags := 1, code := none }
def k13c1 : Code := { maxStack := 3, maxLocals := 3, code := jdk_41_method_11_code, exceptionTable := #[], attributes := #[] }
def k13m1 : Method := { name := "checkIndex", desc := "(IILjava/util/function/BiFunction;)I", sig := { parameters := [.int, .int, (.object "java/util/function/BiFunction")], returnType := some .int }, accessFlags := 9, code := some k13c1 }
/-- jdk/internal/util/Preconditions -/
def k13 : Class := { plain "jdk/internal/util/Preconditions" (some 0) with
  accessFlags := 33
  interfaces := #[]
  cf := some (fileOf pool13 24 #[.nestMembers #[55, 131, 125, 114]] #[{ accessFlags := 1, nameIndex := 5, descriptorIndex := 6, attributes := #[] }, { accessFlags := 9, nameIndex := 33, descriptorIndex := 178, attributes := #[] }] 33 2 #[] #[{ accessFlags := 25, nameIndex := 123, descriptorIndex := 124, attributes := #[] }, { accessFlags := 25, nameIndex := 130, descriptorIndex := 124, attributes := #[] }, { accessFlags := 25, nameIndex := 136, descriptorIndex := 124, attributes := #[] }])
  fields := #[{ name := "SIOOBE_FORMATTER", type := (.object "java/util/function/BiFunction"), accessFlags := 25, slot := 0, constantValue := 0 }, { name := "AIOOBE_FORMATTER", type := (.object "java/util/function/BiFunction"), accessFlags := 25, slot := 1, constantValue := 0 }, { name := "IOOBE_FORMATTER", type := (.object "java/util/function/BiFunction"), accessFlags := 25, slot := 2, constantValue := 0 }]
  methods := #[k13m0, k13m1]
  instanceTypes := #[]
  staticTypes := #[(.object "java/util/function/BiFunction"), (.object "java/util/function/BiFunction"), (.object "java/util/function/BiFunction")]
  resolved := Array.replicate 194 none
  statics := some 2 }

def pool14 : Array CpInfo := pool [(1, .class_ 2), (0, u "java/lang/Character"), (18, u "value"), (0, u "C"), (19, .class_ 44), (1, u "java/lang/Object"), (3, .class_ 50), (1, u "java/lang/Character$CharacterCache"), (24, .integer 55296), (1, .integer 57344), (3, u "(C)Z"), (17, u "(CC)I"), (181, u "compare"), (2, u "$assertionsDisabled"), (0, u "Z"), (21, .class_ 309), (1, u "java/lang/Character$UnicodeBlock"), (73, u "TYPE"), (0, u "Ljava/lang/Class;"), (0, .class_ 386), (0, u "java/io/Serializable"), (0, .class_ 388), (0, u "java/lang/Comparable"), (0, .class_ 390), (0, u "java/lang/constant/Constable"), (0, u "MIN_RADIX"), (0, u "I"), (2, u "MAX_RADIX"), (1, u "MIN_VALUE"), (1, u "MAX_VALUE"), (3, u "UNASSIGNED"), (0, u "B"), (0, u "UPPERCASE_LETTER"), (1, u "LOWERCASE_LETTER"), (0, u "TITLECASE_LETTER"), (1, u "MODIFIER_LETTER"), (1, u "OTHER_LETTER"), (1, u "NON_SPACING_MARK"), (1, u "ENCLOSING_MARK"), (1, u "COMBINING_SPACING_MARK"), (1, u "DECIMAL_DIGIT_NUMBER"), (1, u "LETTER_NUMBER"), (1, u "OTHER_NUMBER"), (1, u "SPACE_SEPARATOR"), (1, u "LINE_SEPARATOR"), (1, u "PARAGRAPH_SEPARATOR"), (1, u "CONTROL"), (1, u "FORMAT"), (1, u "PRIVATE_USE"), (1, u "SURROGATE"), (1, u "DASH_PUNCTUATION"), (1, u "START_PUNCTUATION"), (1, u "END_PUNCTUATION"), (1, u "CONNECTOR_PUNCTUATION"), (1, u "OTHER_PUNCTUATION"), (1, u "MATH_SYMBOL"), (1, u "CURRENCY_SYMBOL"), (1, u "MODIFIER_SYMBOL"), (1, u "OTHER_SYMBOL"), (1, u "INITIAL_QUOTE_PUNCTUATION"), (1, u "FINAL_QUOTE_PUNCTUATION"), (1, u "ERROR"), (1, u "DIRECTIONALITY_UNDEFINED"), (0, u "DIRECTIONALITY_LEFT_TO_RIGHT"), (0, u "DIRECTIONALITY_RIGHT_TO_LEFT"), (0, u "DIRECTIONALITY_RIGHT_TO_LEFT_ARABIC"), (0, u "DIRECTIONALITY_EUROPEAN_NUMBER"), (0, u "DIRECTIONALITY_EUROPEAN_NUMBER_SEPARATOR"), (0, u "DIRECTIONALITY_EUROPEAN_NUMBER_TERMINATOR"), (0, u "DIRECTIONALITY_ARABIC_NUMBER"), (0, u "DIRECTIONALITY_COMMON_NUMBER_SEPARATOR"), (0, u "DIRECTIONALITY_NONSPACING_MARK"), (0, u "DIRECTIONALITY_BOUNDARY_NEUTRAL"), (0, u "DIRECTIONALITY_PARAGRAPH_SEPARATOR"), (0, u "DIRECTIONALITY_SEGMENT_SEPARATOR"), (0, u "DIRECTIONALITY_WHITESPACE"), (0, u "DIRECTIONALITY_OTHER_NEUTRALS"), (0, u "DIRECTIONALITY_LEFT_TO_RIGHT_EMBEDDING"), (0, u "DIRECTIONALITY_LEFT_TO_RIGHT_OVERRIDE"), (0, u "DIRECTIONALITY_RIGHT_TO_LEFT_EMBEDDING"), (0, u "DIRECTIONALITY_RIGHT_TO_LEFT_OVERRIDE"), (1, u "DIRECTIONALITY_POP_DIRECTIONAL_FORMAT"), (0, u "DIRECTIONALITY_LEFT_TO_RIGHT_ISOLATE"), (0, u "DIRECTIONALITY_RIGHT_TO_LEFT_ISOLATE"), (0, u "DIRECTIONALITY_FIRST_STRONG_ISOLATE"), (0, u "DIRECTIONALITY_POP_DIRECTIONAL_ISOLATE"), (0, u "MIN_HIGH_SURROGATE"), (0, u "MAX_HIGH_SURROGATE"), (1, u "MIN_LOW_SURROGATE"), (0, u "MAX_LOW_SURROGATE"), (1, u "MIN_SURROGATE"), (0, u "MAX_SURROGATE"), (0, u "MIN_SUPPLEMENTARY_CODE_POINT"), (0, u "MIN_CODE_POINT"), (0, u "MAX_CODE_POINT"), (1, u "serialVersionUID"), (0, u "J"), (2, u "SIZE"), (0, u "BYTES"), (24, u "isSurrogate"), (63, .class_ 596), (0, u "java/lang/Character$UnicodeScript"), (0, .class_ 598), (0, u "java/lang/Character$Subset")] 5

def k14c0 : Code := { maxStack := 2, maxLocals := 1, code := jdk_89_method_16_code, exceptionTable := #[], attributes := #[] }
def k14m0 : Method := { name := "isSurrogate", desc := "(C)Z", sig := { parameters := [.char], returnType := some .boolean }, accessFlags := 9, code := some k14c0 }
def k14c1 : Code := { maxStack := 2, maxLocals := 2, code := jdk_89_method_98_code, exceptionTable := #[], attributes := #[] }
def k14m1 : Method := { name := "compare", desc := "(CC)I", sig := { parameters := [.char, .char], returnType := some .int }, accessFlags := 9, code := some k14c1 }
/-- java/lang/Character -/
def k14 : Class := { plain "java/lang/Character" (some 0) with
  accessFlags := 49
  interfaces := #[2, 3, 5]
  cf := some (fileOf pool14 1 #[.nestMembers #[48, 595, 307, 597]] #[{ accessFlags := 9, nameIndex := 531, descriptorIndex := 81, attributes := #[] }, { accessFlags := 9, nameIndex := 281, descriptorIndex := 99, attributes := #[] }] 49 42 #[385, 387, 389] #[{ accessFlags := 25, nameIndex := 391, descriptorIndex := 392, attributes := #[] }, { accessFlags := 25, nameIndex := 395, descriptorIndex := 392, attributes := #[] }, { accessFlags := 25, nameIndex := 397, descriptorIndex := 22, attributes := #[] }, { accessFlags := 25, nameIndex := 399, descriptorIndex := 22, attributes := #[] }, { accessFlags := 25, nameIndex := 383, descriptorIndex := 384, attributes := #[] }, { accessFlags := 25, nameIndex := 403, descriptorIndex := 404, attributes := #[] }, { accessFlags := 25, nameIndex := 405, descriptorIndex := 404, attributes := #[] }, { accessFlags := 25, nameIndex := 407, descriptorIndex := 404, attributes := #[] }, { accessFlags := 25, nameIndex := 408, descriptorIndex := 404, attributes := #[] }, { accessFlags := 25, nameIndex := 410, descriptorIndex := 404, attributes := #[] }, { accessFlags := 25, nameIndex := 412, descriptorIndex := 404, attributes := #[] }, { accessFlags := 25, nameIndex := 414, descriptorIndex := 404, attributes := #[] }, { accessFlags := 25, nameIndex := 416, descriptorIndex := 404, attributes := #[] }, { accessFlags := 25, nameIndex := 418, descriptorIndex := 404, attributes := #[] }, { accessFlags := 25, nameIndex := 420, descriptorIndex := 404, attributes := #[] }, { accessFlags := 25, nameIndex := 422, descriptorIndex := 404, attributes := #[] }, { accessFlags := 25, nameIndex := 424, descriptorIndex := 404, attributes := #[] }, { accessFlags := 25, nameIndex := 426, descriptorIndex := 404, attributes := #[] }, { accessFlags := 25, nameIndex := 428, descriptorIndex := 404, attributes := #[] }, { accessFlags := 25, nameIndex := 430, descriptorIndex := 404, attributes := #[] }, { accessFlags := 25, nameIndex := 432, descriptorIndex := 404, attributes := #[] }, { accessFlags := 25, nameIndex := 434, descriptorIndex := 404, attributes := #[] }, { accessFlags := 25, nameIndex := 436, descriptorIndex := 404, attributes := #[] }, { accessFlags := 25, nameIndex := 438, descriptorIndex := 404, attributes := #[] }, { accessFlags := 25, nameIndex := 440, descriptorIndex := 404, attributes := #[] }, { accessFlags := 25, nameIndex := 442, descriptorIndex := 404, attributes := #[] }, { accessFlags := 25, nameIndex := 444, descriptorIndex := 404, attributes := #[] }, { accessFlags := 25, nameIndex := 446, descriptorIndex := 404, attributes := #[] }, { accessFlags := 25, nameIndex := 448, descriptorIndex := 404, attributes := #[] }, { accessFlags := 25, nameIndex := 450, descriptorIndex := 404, attributes := #[] }, { accessFlags := 25, nameIndex := 452, descriptorIndex := 404, attributes := #[] }, { accessFlags := 25, nameIndex := 454, descriptorIndex := 404, attributes := #[] }, { accessFlags := 25, nameIndex := 456, descriptorIndex := 404, attributes := #[] }, { accessFlags := 25, nameIndex := 458, descriptorIndex := 404, attributes := #[] }, { accessFlags := 25, nameIndex := 460, descriptorIndex := 404, attributes := #[] }, { accessFlags := 24, nameIndex := 462, descriptorIndex := 392, attributes := #[] }, { accessFlags := 25, nameIndex := 464, descriptorIndex := 404, attributes := #[] }, { accessFlags := 25, nameIndex := 465, descriptorIndex := 404, attributes := #[] }, { accessFlags := 25, nameIndex := 466, descriptorIndex := 404, attributes := #[] }, { accessFlags := 25, nameIndex := 467, descriptorIndex := 404, attributes := #[] }, { accessFlags := 25, nameIndex := 468, descriptorIndex := 404, attributes := #[] }, { accessFlags := 25, nameIndex := 469, descriptorIndex := 404, attributes := #[] }, { accessFlags := 25, nameIndex := 470, descriptorIndex := 404, attributes := #[] }, { accessFlags := 25, nameIndex := 471, descriptorIndex := 404, attributes := #[] }, { accessFlags := 25, nameIndex := 472, descriptorIndex := 404, attributes := #[] }, { accessFlags := 25, nameIndex := 473, descriptorIndex := 404, attributes := #[] }, { accessFlags := 25, nameIndex := 474, descriptorIndex := 404, attributes := #[] }, { accessFlags := 25, nameIndex := 475, descriptorIndex := 404, attributes := #[] }, { accessFlags := 25, nameIndex := 476, descriptorIndex := 404, attributes := #[] }, { accessFlags := 25, nameIndex := 477, descriptorIndex := 404, attributes := #[] }, { accessFlags := 25, nameIndex := 478, descriptorIndex := 404, attributes := #[] }, { accessFlags := 25, nameIndex := 479, descriptorIndex := 404, attributes := #[] }, { accessFlags := 25, nameIndex := 480, descriptorIndex := 404, attributes := #[] }, { accessFlags := 25, nameIndex := 481, descriptorIndex := 404, attributes := #[] }, { accessFlags := 25, nameIndex := 482, descriptorIndex := 404, attributes := #[] }, { accessFlags := 25, nameIndex := 484, descriptorIndex := 404, attributes := #[] }, { accessFlags := 25, nameIndex := 485, descriptorIndex := 404, attributes := #[] }, { accessFlags := 25, nameIndex := 486, descriptorIndex := 404, attributes := #[] }, { accessFlags := 25, nameIndex := 487, descriptorIndex := 404, attributes := #[] }, { accessFlags := 25, nameIndex := 488, descriptorIndex := 404, attributes := #[] }, { accessFlags := 25, nameIndex := 489, descriptorIndex := 22, attributes := #[] }, { accessFlags := 25, nameIndex := 490, descriptorIndex := 22, attributes := #[] }, { accessFlags := 25, nameIndex := 492, descriptorIndex := 22, attributes := #[] }, { accessFlags := 25, nameIndex := 493, descriptorIndex := 22, attributes := #[] }, { accessFlags := 25, nameIndex := 495, descriptorIndex := 22, attributes := #[] }, { accessFlags := 25, nameIndex := 496, descriptorIndex := 22, attributes := #[] }, { accessFlags := 25, nameIndex := 497, descriptorIndex := 392, attributes := #[] }, { accessFlags := 25, nameIndex := 498, descriptorIndex := 392, attributes := #[] }, { accessFlags := 25, nameIndex := 499, descriptorIndex := 392, attributes := #[] }, { accessFlags := 18, nameIndex := 21, descriptorIndex := 22, attributes := #[] }, { accessFlags := 26, nameIndex := 501, descriptorIndex := 502, attributes := #[] }, { accessFlags := 25, nameIndex := 505, descriptorIndex := 392, attributes := #[] }, { accessFlags := 25, nameIndex := 506, descriptorIndex := 392, attributes := #[] }, { accessFlags := 4120, nameIndex := 284, descriptorIndex := 285, attributes := #[] }])
  fields := #[{ name := "MIN_RADIX", type := .int, accessFlags := 25, slot := 0, constantValue := 0 }, { name := "MAX_RADIX", type := .int, accessFlags := 25, slot := 1, constantValue := 0 }, { name := "MIN_VALUE", type := .char, accessFlags := 25, slot := 2, constantValue := 0 }, { name := "MAX_VALUE", type := .char, accessFlags := 25, slot := 3, constantValue := 0 }, { name := "TYPE", type := (.object "java/lang/Class"), accessFlags := 25, slot := 4, constantValue := 0 }, { name := "UNASSIGNED", type := .byte, accessFlags := 25, slot := 5, constantValue := 0 }, { name := "UPPERCASE_LETTER", type := .byte, accessFlags := 25, slot := 6, constantValue := 0 }, { name := "LOWERCASE_LETTER", type := .byte, accessFlags := 25, slot := 7, constantValue := 0 }, { name := "TITLECASE_LETTER", type := .byte, accessFlags := 25, slot := 8, constantValue := 0 }, { name := "MODIFIER_LETTER", type := .byte, accessFlags := 25, slot := 9, constantValue := 0 }, { name := "OTHER_LETTER", type := .byte, accessFlags := 25, slot := 10, constantValue := 0 }, { name := "NON_SPACING_MARK", type := .byte, accessFlags := 25, slot := 11, constantValue := 0 }, { name := "ENCLOSING_MARK", type := .byte, accessFlags := 25, slot := 12, constantValue := 0 }, { name := "COMBINING_SPACING_MARK", type := .byte, accessFlags := 25, slot := 13, constantValue := 0 }, { name := "DECIMAL_DIGIT_NUMBER", type := .byte, accessFlags := 25, slot := 14, constantValue := 0 }, { name := "LETTER_NUMBER", type := .byte, accessFlags := 25, slot := 15, constantValue := 0 }, { name := "OTHER_NUMBER", type := .byte, accessFlags := 25, slot := 16, constantValue := 0 }, { name := "SPACE_SEPARATOR", type := .byte, accessFlags := 25, slot := 17, constantValue := 0 }, { name := "LINE_SEPARATOR", type := .byte, accessFlags := 25, slot := 18, constantValue := 0 }, { name := "PARAGRAPH_SEPARATOR", type := .byte, accessFlags := 25, slot := 19, constantValue := 0 }, { name := "CONTROL", type := .byte, accessFlags := 25, slot := 20, constantValue := 0 }, { name := "FORMAT", type := .byte, accessFlags := 25, slot := 21, constantValue := 0 }, { name := "PRIVATE_USE", type := .byte, accessFlags := 25, slot := 22, constantValue := 0 }, { name := "SURROGATE", type := .byte, accessFlags := 25, slot := 23, constantValue := 0 }, { name := "DASH_PUNCTUATION", type := .byte, accessFlags := 25, slot := 24, constantValue := 0 }, { name := "START_PUNCTUATION", type := .byte, accessFlags := 25, slot := 25, constantValue := 0 }, { name := "END_PUNCTUATION", type := .byte, accessFlags := 25, slot := 26, constantValue := 0 }, { name := "CONNECTOR_PUNCTUATION", type := .byte, accessFlags := 25, slot := 27, constantValue := 0 }, { name := "OTHER_PUNCTUATION", type := .byte, accessFlags := 25, slot := 28, constantValue := 0 }, { name := "MATH_SYMBOL", type := .byte, accessFlags := 25, slot := 29, constantValue := 0 }, { name := "CURRENCY_SYMBOL", type := .byte, accessFlags := 25, slot := 30, constantValue := 0 }, { name := "MODIFIER_SYMBOL", type := .byte, accessFlags := 25, slot := 31, constantValue := 0 }, { name := "OTHER_SYMBOL", type := .byte, accessFlags := 25, slot := 32, constantValue := 0 }, { name := "INITIAL_QUOTE_PUNCTUATION", type := .byte, accessFlags := 25, slot := 33, constantValue := 0 }, { name := "FINAL_QUOTE_PUNCTUATION", type := .byte, accessFlags := 25, slot := 34, constantValue := 0 }, { name := "ERROR", type := .int, accessFlags := 24, slot := 35, constantValue := 0 }, { name := "DIRECTIONALITY_UNDEFINED", type := .byte, accessFlags := 25, slot := 36, constantValue := 0 }, { name := "DIRECTIONALITY_LEFT_TO_RIGHT", type := .byte, accessFlags := 25, slot := 37, constantValue := 0 }, { name := "DIRECTIONALITY_RIGHT_TO_LEFT", type := .byte, accessFlags := 25, slot := 38, constantValue := 0 }, { name := "DIRECTIONALITY_RIGHT_TO_LEFT_ARABIC", type := .byte, accessFlags := 25, slot := 39, constantValue := 0 }, { name := "DIRECTIONALITY_EUROPEAN_NUMBER", type := .byte, accessFlags := 25, slot := 40, constantValue := 0 }, { name := "DIRECTIONALITY_EUROPEAN_NUMBER_SEPARATOR", type := .byte, accessFlags := 25, slot := 41, constantValue := 0 }, { name := "DIRECTIONALITY_EUROPEAN_NUMBER_TERMINATOR", type := .byte, accessFlags := 25, slot := 42, constantValue := 0 }, { name := "DIRECTIONALITY_ARABIC_NUMBER", type := .byte, accessFlags := 25, slot := 43, constantValue := 0 }, { name := "DIRECTIONALITY_COMMON_NUMBER_SEPARATOR", type := .byte, accessFlags := 25, slot := 44, constantValue := 0 }, { name := "DIRECTIONALITY_NONSPACING_MARK", type := .byte, accessFlags := 25, slot := 45, constantValue := 0 }, { name := "DIRECTIONALITY_BOUNDARY_NEUTRAL", type := .byte, accessFlags := 25, slot := 46, constantValue := 0 }, { name := "DIRECTIONALITY_PARAGRAPH_SEPARATOR", type := .byte, accessFlags := 25, slot := 47, constantValue := 0 }, { name := "DIRECTIONALITY_SEGMENT_SEPARATOR", type := .byte, accessFlags := 25, slot := 48, constantValue := 0 }, { name := "DIRECTIONALITY_WHITESPACE", type := .byte, accessFlags := 25, slot := 49, constantValue := 0 }, { name := "DIRECTIONALITY_OTHER_NEUTRALS", type := .byte, accessFlags := 25, slot := 50, constantValue := 0 }, { name := "DIRECTIONALITY_LEFT_TO_RIGHT_EMBEDDING", type := .byte, accessFlags := 25, slot := 51, constantValue := 0 }, { name := "DIRECTIONALITY_LEFT_TO_RIGHT_OVERRIDE", type := .byte, accessFlags := 25, slot := 52, constantValue := 0 }, { name := "DIRECTIONALITY_RIGHT_TO_LEFT_EMBEDDING", type := .byte, accessFlags := 25, slot := 53, constantValue := 0 }, { name := "DIRECTIONALITY_RIGHT_TO_LEFT_OVERRIDE", type := .byte, accessFlags := 25, slot := 54, constantValue := 0 }, { name := "DIRECTIONALITY_POP_DIRECTIONAL_FORMAT", type := .byte, accessFlags := 25, slot := 55, constantValue := 0 }, { name := "DIRECTIONALITY_LEFT_TO_RIGHT_ISOLATE", type := .byte, accessFlags := 25, slot := 56, constantValue := 0 }, { name := "DIRECTIONALITY_RIGHT_TO_LEFT_ISOLATE", type := .byte, accessFlags := 25, slot := 57, constantValue := 0 }, { name := "DIRECTIONALITY_FIRST_STRONG_ISOLATE", type := .byte, accessFlags := 25, slot := 58, constantValue := 0 }, { name := "DIRECTIONALITY_POP_DIRECTIONAL_ISOLATE", type := .byte, accessFlags := 25, slot := 59, constantValue := 0 }, { name := "MIN_HIGH_SURROGATE", type := .char, accessFlags := 25, slot := 60, constantValue := 0 }, { name := "MAX_HIGH_SURROGATE", type := .char, accessFlags := 25, slot := 61, constantValue := 0 }, { name := "MIN_LOW_SURROGATE", type := .char, accessFlags := 25, slot := 62, constantValue := 0 }, { name := "MAX_LOW_SURROGATE", type := .char, accessFlags := 25, slot := 63, constantValue := 0 }, { name := "MIN_SURROGATE", type := .char, accessFlags := 25, slot := 64, constantValue := 0 }, { name := "MAX_SURROGATE", type := .char, accessFlags := 25, slot := 65, constantValue := 0 }, { name := "MIN_SUPPLEMENTARY_CODE_POINT", type := .int, accessFlags := 25, slot := 66, constantValue := 0 }, { name := "MIN_CODE_POINT", type := .int, accessFlags := 25, slot := 67, constantValue := 0 }, { name := "MAX_CODE_POINT", type := .int, accessFlags := 25, slot := 68, constantValue := 0 }, { name := "value", type := .char, accessFlags := 18, slot := 0, constantValue := 0 }, { name := "serialVersionUID", type := .long, accessFlags := 26, slot := 69, constantValue := 0 }, { name := "SIZE", type := .int, accessFlags := 25, slot := 70, constantValue := 0 }, { name := "BYTES", type := .int, accessFlags := 25, slot := 71, constantValue := 0 }, { name := "$assertionsDisabled", type := .boolean, accessFlags := 4120, slot := 72, constantValue := 0 }]
  methods := #[k14m0, k14m1]
  instanceTypes := #[.char]
  staticTypes := #[.int, .int, .char, .char, (.object "java/lang/Class"), .byte, .byte, .byte, .byte, .byte, .byte, .byte, .byte, .byte, .byte, .byte, .byte, .byte, .byte, .byte, .byte, .byte, .byte, .byte, .byte, .byte, .byte, .byte, .byte, .byte, .byte, .byte, .byte, .byte, .byte, .int, .byte, .byte, .byte, .byte, .byte, .byte, .byte, .byte, .byte, .byte, .byte, .byte, .byte, .byte, .byte, .byte, .byte, .byte, .byte, .byte, .byte, .byte, .byte, .byte, .char, .char, .char, .char, .char, .char, .int, .int, .int, .long, .int, .int, .boolean]
  resolved := Array.replicate 604 none
  statics := none }

def pool15 : Array CpInfo := pool [(1, .class_ 2), (0, u "java/lang/String"), (1, .class_ 6), (1, u "java/lang/Object"), (0, u "<init>"), (0, u "()V"), (0, .methodref 1 10), (0, .nameAndType 11 12), (0, u "checkIndex"), (0, u "(II)V"), (1, .class_ 16), (1, u "java/lang/StringLatin1"), (36, u "([BI)C"), (67, u "$assertionsDisabled"), (0, u "Z"), (98, .class_ 223), (1, u "java/lang/StringLatin1$LinesSpliterator"), (28, u "charAt"), (137, .class_ 391), (0, u "java/lang/StringLatin1$CharsSpliterator")] 3

def k15m0 : Method := { name := "<init>", desc := "()V", sig := { parameters := [], returnType := none }, accessFlags := 0, code := none }
def k15c1 : Code := { maxStack := 2, maxLocals := 2, code := jdk_43_method_2_code, exceptionTable := #[], attributes := #[] }
def k15m1 : Method := { name := "charAt", desc := "([BI)C", sig := { parameters := [(.array .byte), .int], returnType := some .char }, accessFlags := 9, code := some k15c1 }
/-- java/lang/StringLatin1 -/
def k15 : Class := { plain "java/lang/StringLatin1" (some 0) with
  accessFlags := 48
  interfaces := #[]
  cf := some (fileOf pool15 14 #[.nestMembers #[390, 221]] #[{ accessFlags := 0, nameIndex := 7, descriptorIndex := 8, attributes := #[] }, { accessFlags := 9, nameIndex := 252, descriptorIndex := 53, attributes := #[] }] 48 4 #[] #[{ accessFlags := 4120, nameIndex := 121, descriptorIndex := 122, attributes := #[] }])
  fields := #[{ name := "$assertionsDisabled", type := .boolean, accessFlags := 4120, slot := 0, constantValue := 0 }]
  methods := #[k15m0, k15m1]
  instanceTypes := #[]
  staticTypes := #[.boolean]
  resolved := Array.replicate 395 none
  statics := none }

def pool16 : Array CpInfo := pool [(9, u "<init>"), (6, .class_ 18), (1, u "java/lang/Object"), (0, u "()V"), (1, .class_ 23), (1, u "jdk/internal/util/ArraysSupport"), (0, u "LOG2_ARRAY_LONG_INDEX_SCALE"), (0, u "I"), (2, u "U"), (0, u "Ljdk/internal/misc/Unsafe;"), (8, u "BIG_ENDIAN"), (0, u "Z"), (8, u "LOG2_BYTE_BIT_SIZE"), (4, u "LOG2_ARRAY_INT_INDEX_SCALE"), (54, u "JLA"), (0, u "Ljdk/internal/access/JavaLangAccess;"), (11, u "LOG2_ARRAY_BOOLEAN_INDEX_SCALE"), (9, u "LOG2_ARRAY_BYTE_INDEX_SCALE"), (5, u "LOG2_ARRAY_CHAR_INDEX_SCALE"), (5, u "LOG2_ARRAY_SHORT_INDEX_SCALE"), (18, u "LOG2_ARRAY_FLOAT_INDEX_SCALE"), (24, u "LOG2_ARRAY_DOUBLE_INDEX_SCALE"), (89, u "T_BOOLEAN"), (2, u "T_CHAR"), (1, u "T_FLOAT"), (1, u "T_DOUBLE"), (1, u "T_BYTE"), (1, u "T_SHORT"), (1, u "T_INT"), (1, u "T_LONG"), (1, u "SOFT_MAX_ARRAY_LENGTH")] 83

def k16m0 : Method := { name := "<init>", desc := "()V", sig := { parameters := [], returnType := none }, accessFlags := 2, code := none }
/-- jdk/internal/util/ArraysSupport -/
def k16 : Class := { plain "jdk/internal/util/ArraysSupport" (some 0) with
  accessFlags := 33
  interfaces := #[]
  cf := some (fileOf pool16 21 #[] #[{ accessFlags := 2, nameIndex := 9, descriptorIndex := 19, attributes := #[] }] 33 16 #[] #[{ accessFlags := 24, nameIndex := 28, descriptorIndex := 29, attributes := #[] }, { accessFlags := 26, nameIndex := 38, descriptorIndex := 39, attributes := #[] }, { accessFlags := 25, nameIndex := 121, descriptorIndex := 25, attributes := #[] }, { accessFlags := 25, nameIndex := 131, descriptorIndex := 25, attributes := #[] }, { accessFlags := 25, nameIndex := 137, descriptorIndex := 25, attributes := #[] }, { accessFlags := 25, nameIndex := 143, descriptorIndex := 25, attributes := #[] }, { accessFlags := 25, nameIndex := 53, descriptorIndex := 25, attributes := #[] }, { accessFlags := 25, nameIndex := 24, descriptorIndex := 25, attributes := #[] }, { accessFlags := 25, nameIndex := 162, descriptorIndex := 25, attributes := #[] }, { accessFlags := 25, nameIndex := 187, descriptorIndex := 25, attributes := #[] }, { accessFlags := 26, nameIndex := 48, descriptorIndex := 25, attributes := #[] }, { accessFlags := 25, nameIndex := 277, descriptorIndex := 25, attributes := #[] }, { accessFlags := 25, nameIndex := 280, descriptorIndex := 25, attributes := #[] }, { accessFlags := 25, nameIndex := 282, descriptorIndex := 25, attributes := #[] }, { accessFlags := 25, nameIndex := 284, descriptorIndex := 25, attributes := #[] }, { accessFlags := 25, nameIndex := 286, descriptorIndex := 25, attributes := #[] }, { accessFlags := 25, nameIndex := 288, descriptorIndex := 25, attributes := #[] }, { accessFlags := 25, nameIndex := 290, descriptorIndex := 25, attributes := #[] }, { accessFlags := 25, nameIndex := 292, descriptorIndex := 25, attributes := #[] }, { accessFlags := 26, nameIndex := 108, descriptorIndex := 109, attributes := #[] }, { accessFlags := 25, nameIndex := 294, descriptorIndex := 25, attributes := #[] }])
  fields := #[{ name := "U", type := (.object "jdk/internal/misc/Unsafe"), accessFlags := 24, slot := 0, constantValue := 0 }, { name := "BIG_ENDIAN", type := .boolean, accessFlags := 26, slot := 1, constantValue := 0 }, { name := "LOG2_ARRAY_BOOLEAN_INDEX_SCALE", type := .int, accessFlags := 25, slot := 2, constantValue := 0 }, { name := "LOG2_ARRAY_BYTE_INDEX_SCALE", type := .int, accessFlags := 25, slot := 3, constantValue := 0 }, { name := "LOG2_ARRAY_CHAR_INDEX_SCALE", type := .int, accessFlags := 25, slot := 4, constantValue := 0 }, { name := "LOG2_ARRAY_SHORT_INDEX_SCALE", type := .int, accessFlags := 25, slot := 5, constantValue := 0 }, { name := "LOG2_ARRAY_INT_INDEX_SCALE", type := .int, accessFlags := 25, slot := 6, constantValue := 0 }, { name := "LOG2_ARRAY_LONG_INDEX_SCALE", type := .int, accessFlags := 25, slot := 7, constantValue := 0 }, { name := "LOG2_ARRAY_FLOAT_INDEX_SCALE", type := .int, accessFlags := 25, slot := 8, constantValue := 0 }, { name := "LOG2_ARRAY_DOUBLE_INDEX_SCALE", type := .int, accessFlags := 25, slot := 9, constantValue := 0 }, { name := "LOG2_BYTE_BIT_SIZE", type := .int, accessFlags := 26, slot := 10, constantValue := 0 }, { name := "T_BOOLEAN", type := .int, accessFlags := 25, slot := 11, constantValue := 0 }, { name := "T_CHAR", type := .int, accessFlags := 25, slot := 12, constantValue := 0 }, { name := "T_FLOAT", type := .int, accessFlags := 25, slot := 13, constantValue := 0 }, { name := "T_DOUBLE", type := .int, accessFlags := 25, slot := 14, constantValue := 0 }, { name := "T_BYTE", type := .int, accessFlags := 25, slot := 15, constantValue := 0 }, { name := "T_SHORT", type := .int, accessFlags := 25, slot := 16, constantValue := 0 }, { name := "T_INT", type := .int, accessFlags := 25, slot := 17, constantValue := 0 }, { name := "T_LONG", type := .int, accessFlags := 25, slot := 18, constantValue := 0 }, { name := "JLA", type := (.object "jdk/internal/access/JavaLangAccess"), accessFlags := 26, slot := 19, constantValue := 0 }, { name := "SOFT_MAX_ARRAY_LENGTH", type := .int, accessFlags := 25, slot := 20, constantValue := 0 }]
  methods := #[k16m0]
  instanceTypes := #[]
  staticTypes := #[(.object "jdk/internal/misc/Unsafe"), .boolean, .int, .int, .int, .int, .int, .int, .int, .int, .int, .int, .int, .int, .int, .int, .int, .int, .int, (.object "jdk/internal/access/JavaLangAccess"), .int]
  resolved := Array.replicate 378 none
  statics := none }

def pool17 : Array CpInfo := pool [(1, u "java/lang/Cloneable"), (0, .class_ 1), (0, u "java/lang/Object"), (0, .class_ 3)] 3

/-- java/lang/Cloneable -/
def k17 : Class := { plain "java/lang/Cloneable" (some 0) with
  accessFlags := 1537
  interfaces := #[]
  cf := some (fileOf pool17 2 #[] #[] 1537 4 #[] #[])
  fields := #[]
  methods := #[]
  instanceTypes := #[]
  staticTypes := #[]
  resolved := Array.replicate 8 none
  statics := none }

/-- the primitive byte -/
def k18 : Class := { plain "byte" none with kind := .primitive 'B', accessFlags := 0x411 }
/-- [B -/
def k19 : Class := { plain "[B" (some 0) with kind := .array 18 .byte, interfaces := #[17, 2], accessFlags := 1041 }

/-- the primitive char -/
def k20 : Class := { plain "char" none with kind := .primitive 'C', accessFlags := 0x411 }
/-- [C -/
def k21 : Class := { plain "[C" (some 0) with kind := .array 20 .char, interfaces := #[17, 2], accessFlags := 1041 }

/-- the primitive int -/
def k22 : Class := { plain "int" none with kind := .primitive 'I', accessFlags := 0x411 }
/-- [I -/
def k23 : Class := { plain "[I" (some 0) with kind := .array 22 .int, interfaces := #[17, 2], accessFlags := 1041 }

def heap : Heap := #[{ cls := 7, slots := #[.long 0, .int 1, .null, .int 0, .null, .int 0, .int 0], vm := .statics 7 },
  { cls := 12, slots := #[.int 0, .int 8, .int 0, .int 1], vm := .statics 12 },
  { cls := 13, slots := #[.null, .null, .null], vm := .statics 13 }]
def classes : Array Class := #[k0, k1, k2, k3, k4, k5, k6, k7, k8, k9, k10, k11, k12, k13, k14, k15, k16, k17, k18, k19, k20, k21, k22, k23]
def interned : List (Array UInt16 × Addr) := []
def slotsUsed : Nat := 14
def theMethod : MethodId := ⟨1, 1⟩
def args0 : Array Value := #[.int 3, .int 65, .int 5, .int 15, .int 2]
def aboutOver (below : List Frame) : State where
  vm := { classes := classes, interned := interned.toArray }
  heap := heap
  slotsUsed := slotsUsed
  threads := #[{ frames := .invoking theMethod args0 :: below }]
def below0 : List Frame := [.native { method := ⟨0, 0⟩, args := #[] }]
def about1 : State := aboutOver below0
def p0 : Program := .bare "" "" ""
def e0 : Env := launch0.env 0 0 0
theorem w_frames : about1.frames = Frame.invoking theMethod args0 :: below0 := rfl
set_option maxRecDepth 65536 in
theorem w_args : argsFit about1.vm theMethod args0 = true := by decide +kernel
set_option maxRecDepth 65536 in
theorem w_heap : heapFits about1 = true := by decide +kernel
set_option maxRecDepth 65536 in
theorem w_runnable : about1.curStatus? = some .runnable := by decide +kernel
set_option maxRecDepth 65536 in
theorem w_alone : about1.alone = true := by decide +kernel
set_option maxRecDepth 65536 in
theorem w_named : about1.methodNamed? x = some theMethod := by decide +kernel
set_option maxRecDepth 65536 in
theorem w_hears : about1.hears theMethod below0 = true := by decide +kernel
set_option maxRecDepth 65536 in
theorem w_ripe : about1.ripe theMethod args0 below0 = true := by decide +kernel
theorem w_running : about1.status = .running := rfl
set_option maxRecDepth 65536 in
theorem w_room : about1.hasRoom e0.platform room_1 = true :=
  launch0.hasRoom_least _ room_1 (by decide +kernel) (by decide +kernel) (by decide +kernel) (by decide +kernel) (by decide +kernel) (by decide +kernel)
theorem allAtoms_all (ts : List Jvm.Cond) (a : Array Jvm.Value) (st : Jvm.State) : (allAtoms ts).before a st = ts.all (fun c => c.before a st) := by
  induction ts with
  | nil => rfl
  | cons c t ih =>
    show (Jvm.Cond.and c (allAtoms t)).before a st = _
    rw [Jvm.Cond.before_and, ih, List.all_cons]
def words1 : List Jvm.Cond := Jvm.Cond.code x code maxLocals ret :: tables_1
/-- a 'code' word, met by the world's own term for the bytes: nothing is compared byte by byte -/
theorem code_word {y : MethodName} {bytes : ByteArray} {mx : Nat} {rt : Option FieldType} {a : Array Value} {s : State} {m : MethodId} {meth : Method} {c : Code} (h1 : s.methodNamed? y = some m) (h2 : s.vm.method? m = some meth) (h3 : meth.code = some c) (h4 : c.code = bytes)
    (h5 : (c.maxLocals == mx && c.exceptionTable.isEmpty && decide (c.maxStack ≤ mostOperands) && decide (meth.sig.returnType = rt) && !meth.locks && decide (parseMethodDescriptor y.desc = some meth.sig)) = true) : (Jvm.Cond.code y bytes mx rt).before a s = true := by
  simp only [Bool.and_eq_true, beq_iff_eq, Bool.not_eq_true', decide_eq_true_eq] at h5
  obtain ⟨⟨⟨⟨⟨g1, g2⟩, g3⟩, g4⟩, g5⟩, g6⟩ := h5
  simp [Cond.before, Cond.holds, Cond.value, h1, h2, h3, h4, g1, g2, g3, g4, g5, g6]
def isCode : Jvm.Cond → Bool
  | .code _ _ _ _ => true
  | _ => false
theorem all_split {L : List Jvm.Cond} {P : Jvm.Cond → Bool} (h1 : L.all (fun c => isCode c || P c) = true) (h2 : ∀ c ∈ L.filter isCode, P c = true) : L.all P = true := by
  refine List.all_eq_true.mpr fun c hc => ?_
  have h := List.all_eq_true.mp h1 c hc
  rcases Bool.eq_false_or_eq_true (isCode c) with hi | hi
  · exact h2 c (List.mem_filter.mpr ⟨hc, hi⟩)
  · simpa [hi] using h
set_option maxRecDepth 65536 in
theorem w_c0 : (Jvm.Cond.code x code maxLocals ret).before args0 about1 = true := code_word (m := ⟨1, 1⟩) (meth := k1m1) (c := k1c1) (by decide +kernel) rfl rfl rfl (by decide +kernel)
set_option maxRecDepth 65536 in
theorem w_c1 : (Jvm.Cond.code ({ cls := "com/example/congruent/congruent/graph/CodePointOrderComparePinLaw", name := "cp", desc := "(I)I" } : Jvm.MethodName) method_3_code (2 : Nat) (Option.some Jvm.ClassFile.FieldType.int)).before args0 about1 = true := code_word (m := ⟨1, 2⟩) (meth := k1m2) (c := k1c2) (by decide +kernel) rfl rfl rfl (by decide +kernel)
set_option maxRecDepth 65536 in
theorem w_c2 : (Jvm.Cond.code ({ cls := "com/example/congruent/congruent/graph/CodePointOrderComparePinLaw", name := "pick", desc := "(III)I" } : Jvm.MethodName) method_4_code (3 : Nat) (Option.some Jvm.ClassFile.FieldType.int)).before args0 about1 = true := code_word (m := ⟨1, 3⟩) (meth := k1m3) (c := k1c3) (by decide +kernel) rfl rfl rfl (by decide +kernel)
set_option maxRecDepth 65536 in
theorem w_c3 : (Jvm.Cond.code ({ cls := "com/example/congruent/congruent/graph/CodePointOrderComparePinLaw", name := "str", desc := "(III)Ljava/lang/String;" } : Jvm.MethodName) method_8_code (5 : Nat) (Option.some (Jvm.ClassFile.FieldType.object "java/lang/String"))).before args0 about1 = true := code_word (m := ⟨1, 7⟩) (meth := k1m7) (c := k1c7) (by decide +kernel) rfl rfl rfl (by decide +kernel)
set_option maxRecDepth 65536 in
theorem w_c4 : (Jvm.Cond.code ({ cls := "java/lang/String", name := "<init>", desc := "([C)V" } : Jvm.MethodName) jdk_42_method_3_code (2 : Nat) (Option.none : Option Jvm.ClassFile.FieldType)).before args0 about1 = true := code_word (m := ⟨7, 1⟩) (meth := k7m1) (c := k7c1) (by decide +kernel) rfl rfl rfl (by decide +kernel)
set_option maxRecDepth 65536 in
theorem w_c5 : (Jvm.Cond.code ({ cls := "java/lang/String", name := "<init>", desc := "([CIILjava/lang/Void;)V" } : Jvm.MethodName) jdk_42_method_149_code (6 : Nat) (Option.none : Option Jvm.ClassFile.FieldType)).before args0 about1 = true := code_word (m := ⟨7, 4⟩) (meth := k7m4) (c := k7c4) (by decide +kernel) rfl rfl rfl (by decide +kernel)
set_option maxRecDepth 65536 in
theorem w_c6 : (Jvm.Cond.code ({ cls := "java/lang/Object", name := "<init>", desc := "()V" } : Jvm.MethodName) object_method_1_code (1 : Nat) (Option.none : Option Jvm.ClassFile.FieldType)).before args0 about1 = true := code_word (m := ⟨0, 0⟩) (meth := k0m0) (c := k0c0) (by decide +kernel) rfl rfl rfl (by decide +kernel)
set_option maxRecDepth 65536 in
theorem w_c7 : (Jvm.Cond.code ({ cls := "com/example/congruent/congruent/graph/CodePointOrder", name := "compare", desc := "(Ljava/lang/String;Ljava/lang/String;)I" } : Jvm.MethodName) prog_39_method_2_code (7 : Nat) (Option.some Jvm.ClassFile.FieldType.int)).before args0 about1 = true := code_word (m := ⟨8, 1⟩) (meth := k8m1) (c := k8c1) (by decide +kernel) rfl rfl rfl (by decide +kernel)
set_option maxRecDepth 65536 in
theorem w_c8 : (Jvm.Cond.code ({ cls := "java/lang/String", name := "length", desc := "()I" } : Jvm.MethodName) jdk_42_method_54_code (1 : Nat) (Option.some Jvm.ClassFile.FieldType.int)).before args0 about1 = true := code_word (m := ⟨7, 2⟩) (meth := k7m2) (c := k7c2) (by decide +kernel) rfl rfl rfl (by decide +kernel)
set_option maxRecDepth 65536 in
theorem w_c9 : (Jvm.Cond.code ({ cls := "java/lang/String", name := "coder", desc := "()B" } : Jvm.MethodName) jdk_42_method_152_code (1 : Nat) (Option.some Jvm.ClassFile.FieldType.byte)).before args0 about1 = true := code_word (m := ⟨7, 5⟩) (meth := k7m5) (c := k7c5) (by decide +kernel) rfl rfl rfl (by decide +kernel)
set_option maxRecDepth 65536 in
theorem w_c10 : (Jvm.Cond.code ({ cls := "java/lang/Math", name := "min", desc := "(II)I" } : Jvm.MethodName) jdk_29_method_69_code (2 : Nat) (Option.some Jvm.ClassFile.FieldType.int)).before args0 about1 = true := code_word (m := ⟨9, 1⟩) (meth := k9m1) (c := k9c1) (by decide +kernel) rfl rfl rfl (by decide +kernel)
set_option maxRecDepth 65536 in
theorem w_c11 : (Jvm.Cond.code ({ cls := "java/lang/Integer", name := "compare", desc := "(II)I" } : Jvm.MethodName) jdk_33_method_40_code (2 : Nat) (Option.some Jvm.ClassFile.FieldType.int)).before args0 about1 = true := code_word (m := ⟨11, 0⟩) (meth := k11m0) (c := k11c0) (by decide +kernel) rfl rfl rfl (by decide +kernel)
set_option maxRecDepth 65536 in
theorem w_c12 : (Jvm.Cond.code ({ cls := "com/example/congruent/congruent/graph/CodePointOrderComparePinLaw", name := "sign", desc := "(I)I" } : Jvm.MethodName) method_5_code (1 : Nat) (Option.some Jvm.ClassFile.FieldType.int)).before args0 about1 = true := code_word (m := ⟨1, 4⟩) (meth := k1m4) (c := k1c4) (by decide +kernel) rfl rfl rfl (by decide +kernel)
set_option maxRecDepth 65536 in
theorem w_c13 : (Jvm.Cond.code ({ cls := "com/example/congruent/congruent/graph/CodePointOrderComparePinLaw", name := "ref", desc := "(IIIIII)I" } : Jvm.MethodName) method_6_code (6 : Nat) (Option.some Jvm.ClassFile.FieldType.int)).before args0 about1 = true := code_word (m := ⟨1, 5⟩) (meth := k1m5) (c := k1c5) (by decide +kernel) rfl rfl rfl (by decide +kernel)
set_option maxRecDepth 65536 in
theorem w_c14 : (Jvm.Cond.code ({ cls := "com/example/congruent/congruent/graph/CodePointOrderComparePinLaw", name := "put", desc := "([CII)I" } : Jvm.MethodName) method_7_code (4 : Nat) (Option.some Jvm.ClassFile.FieldType.int)).before args0 about1 = true := code_word (m := ⟨1, 6⟩) (meth := k1m6) (c := k1c6) (by decide +kernel) rfl rfl rfl (by decide +kernel)
set_option maxRecDepth 65536 in
theorem w_c15 : (Jvm.Cond.code ({ cls := "java/lang/StringUTF16", name := "compress", desc := "([CII)[B" } : Jvm.MethodName) jdk_52_method_16_code (6 : Nat) (Option.some (Jvm.ClassFile.FieldType.array Jvm.ClassFile.FieldType.byte))).before args0 about1 = true := code_word (m := ⟨12, 8⟩) (meth := k12m8) (c := k12c8) (by decide +kernel) rfl rfl rfl (by decide +kernel)
set_option maxRecDepth 65536 in
theorem w_c16 : (Jvm.Cond.code ({ cls := "java/lang/StringUTF16", name := "compress", desc := "([CI[BII)I" } : Jvm.MethodName) jdk_52_method_21_code (7 : Nat) (Option.some Jvm.ClassFile.FieldType.int)).before args0 about1 = true := code_word (m := ⟨12, 9⟩) (meth := k12m9) (c := k12c9) (by decide +kernel) rfl rfl rfl (by decide +kernel)
set_option maxRecDepth 65536 in
theorem w_c17 : (Jvm.Cond.code ({ cls := "java/lang/StringUTF16", name := "coderFromArrayLen", desc := "([BI)B" } : Jvm.MethodName) jdk_52_method_15_code (2 : Nat) (Option.some Jvm.ClassFile.FieldType.byte)).before args0 about1 = true := code_word (m := ⟨12, 7⟩) (meth := k12m7) (c := k12c7) (by decide +kernel) rfl rfl rfl (by decide +kernel)
set_option maxRecDepth 65536 in
theorem w_c18 : (Jvm.Cond.code ({ cls := "java/lang/StringUTF16", name := "toBytes", desc := "([CII)[B" } : Jvm.MethodName) jdk_52_method_14_code (5 : Nat) (Option.some (Jvm.ClassFile.FieldType.array Jvm.ClassFile.FieldType.byte))).before args0 about1 = true := code_word (m := ⟨12, 6⟩) (meth := k12m6) (c := k12c6) (by decide +kernel) rfl rfl rfl (by decide +kernel)
set_option maxRecDepth 65536 in
theorem w_c19 : (Jvm.Cond.code ({ cls := "java/lang/StringUTF16", name := "newBytesFor", desc := "(I)[B" } : Jvm.MethodName) jdk_52_method_2_code (1 : Nat) (Option.some (Jvm.ClassFile.FieldType.array Jvm.ClassFile.FieldType.byte))).before args0 about1 = true := code_word (m := ⟨12, 1⟩) (meth := k12m1) (c := k12c1) (by decide +kernel) rfl rfl rfl (by decide +kernel)
set_option maxRecDepth 65536 in
theorem w_c20 : (Jvm.Cond.code ({ cls := "java/lang/StringUTF16", name := "newBytesLength", desc := "(I)I" } : Jvm.MethodName) jdk_52_method_3_code (1 : Nat) (Option.some Jvm.ClassFile.FieldType.int)).before args0 about1 = true := code_word (m := ⟨12, 2⟩) (meth := k12m2) (c := k12c2) (by decide +kernel) rfl rfl rfl (by decide +kernel)
set_option maxRecDepth 65536 in
theorem w_c21 : (Jvm.Cond.code ({ cls := "java/lang/StringUTF16", name := "putChar", desc := "([BII)V" } : Jvm.MethodName) jdk_52_method_4_code (3 : Nat) (Option.none : Option Jvm.ClassFile.FieldType)).before args0 about1 = true := code_word (m := ⟨12, 3⟩) (meth := k12m3) (c := k12c3) (by decide +kernel) rfl rfl rfl (by decide +kernel)
set_option maxRecDepth 65536 in
theorem w_c22 : (Jvm.Cond.code ({ cls := "java/lang/StringUTF16", name := "getChar", desc := "([BI)C" } : Jvm.MethodName) jdk_52_method_5_code (2 : Nat) (Option.some Jvm.ClassFile.FieldType.char)).before args0 about1 = true := code_word (m := ⟨12, 4⟩) (meth := k12m4) (c := k12c4) (by decide +kernel) rfl rfl rfl (by decide +kernel)
set_option maxRecDepth 65536 in
theorem w_c23 : (Jvm.Cond.code ({ cls := "java/lang/String", name := "charAt", desc := "(I)C" } : Jvm.MethodName) jdk_42_method_56_code (2 : Nat) (Option.some Jvm.ClassFile.FieldType.char)).before args0 about1 = true := code_word (m := ⟨7, 3⟩) (meth := k7m3) (c := k7c3) (by decide +kernel) rfl rfl rfl (by decide +kernel)
set_option maxRecDepth 65536 in
theorem w_c24 : (Jvm.Cond.code ({ cls := "java/lang/String", name := "isLatin1", desc := "()Z" } : Jvm.MethodName) jdk_42_method_154_code (1 : Nat) (Option.some Jvm.ClassFile.FieldType.boolean)).before args0 about1 = true := code_word (m := ⟨7, 6⟩) (meth := k7m6) (c := k7c6) (by decide +kernel) rfl rfl rfl (by decide +kernel)
set_option maxRecDepth 65536 in
theorem w_c25 : (Jvm.Cond.code ({ cls := "java/lang/StringUTF16", name := "charAt", desc := "([BI)C" } : Jvm.MethodName) jdk_52_method_83_code (2 : Nat) (Option.some Jvm.ClassFile.FieldType.char)).before args0 about1 = true := code_word (m := ⟨12, 10⟩) (meth := k12m10) (c := k12c10) (by decide +kernel) rfl rfl rfl (by decide +kernel)
set_option maxRecDepth 65536 in
theorem w_c26 : (Jvm.Cond.code ({ cls := "java/lang/StringUTF16", name := "checkIndex", desc := "(I[B)V" } : Jvm.MethodName) jdk_52_method_91_code (2 : Nat) (Option.none : Option Jvm.ClassFile.FieldType)).before args0 about1 = true := code_word (m := ⟨12, 11⟩) (meth := k12m11) (c := k12c11) (by decide +kernel) rfl rfl rfl (by decide +kernel)
set_option maxRecDepth 65536 in
theorem w_c27 : (Jvm.Cond.code ({ cls := "java/lang/StringUTF16", name := "length", desc := "([B)I" } : Jvm.MethodName) jdk_52_method_6_code (1 : Nat) (Option.some Jvm.ClassFile.FieldType.int)).before args0 about1 = true := code_word (m := ⟨12, 5⟩) (meth := k12m5) (c := k12c5) (by decide +kernel) rfl rfl rfl (by decide +kernel)
set_option maxRecDepth 65536 in
theorem w_c28 : (Jvm.Cond.code ({ cls := "java/lang/String", name := "checkIndex", desc := "(II)V" } : Jvm.MethodName) jdk_42_method_155_code (2 : Nat) (Option.none : Option Jvm.ClassFile.FieldType)).before args0 about1 = true := code_word (m := ⟨7, 7⟩) (meth := k7m7) (c := k7c7) (by decide +kernel) rfl rfl rfl (by decide +kernel)
set_option maxRecDepth 65536 in
theorem w_c29 : (Jvm.Cond.code ({ cls := "jdk/internal/util/Preconditions", name := "checkIndex", desc := "(IILjava/util/function/BiFunction;)I" } : Jvm.MethodName) jdk_41_method_11_code (3 : Nat) (Option.some Jvm.ClassFile.FieldType.int)).before args0 about1 = true := code_word (m := ⟨13, 1⟩) (meth := k13m1) (c := k13c1) (by decide +kernel) rfl rfl rfl (by decide +kernel)
set_option maxRecDepth 65536 in
theorem w_c30 : (Jvm.Cond.code ({ cls := "java/lang/Character", name := "isSurrogate", desc := "(C)Z" } : Jvm.MethodName) jdk_89_method_16_code (1 : Nat) (Option.some Jvm.ClassFile.FieldType.boolean)).before args0 about1 = true := code_word (m := ⟨14, 0⟩) (meth := k14m0) (c := k14c0) (by decide +kernel) rfl rfl rfl (by decide +kernel)
set_option maxRecDepth 65536 in
theorem w_c31 : (Jvm.Cond.code ({ cls := "java/lang/StringLatin1", name := "charAt", desc := "([BI)C" } : Jvm.MethodName) jdk_43_method_2_code (2 : Nat) (Option.some Jvm.ClassFile.FieldType.char)).before args0 about1 = true := code_word (m := ⟨15, 1⟩) (meth := k15m1) (c := k15c1) (by decide +kernel) rfl rfl rfl (by decide +kernel)
set_option maxRecDepth 65536 in
theorem w_c32 : (Jvm.Cond.code ({ cls := "java/lang/Character", name := "compare", desc := "(CC)I" } : Jvm.MethodName) jdk_89_method_98_code (2 : Nat) (Option.some Jvm.ClassFile.FieldType.int)).before args0 about1 = true := code_word (m := ⟨14, 1⟩) (meth := k14m1) (c := k14c1) (by decide +kernel) rfl rfl rfl (by decide +kernel)
def codes1 : List Jvm.Cond := [Jvm.Cond.code x code maxLocals ret, Jvm.Cond.code ({ cls := "com/example/congruent/congruent/graph/CodePointOrderComparePinLaw", name := "cp", desc := "(I)I" } : Jvm.MethodName) method_3_code (2 : Nat) (Option.some Jvm.ClassFile.FieldType.int), Jvm.Cond.code ({ cls := "com/example/congruent/congruent/graph/CodePointOrderComparePinLaw", name := "pick", desc := "(III)I" } : Jvm.MethodName) method_4_code (3 : Nat) (Option.some Jvm.ClassFile.FieldType.int), Jvm.Cond.code ({ cls := "com/example/congruent/congruent/graph/CodePointOrderComparePinLaw", name := "str", desc := "(III)Ljava/lang/String;" } : Jvm.MethodName) method_8_code (5 : Nat) (Option.some (Jvm.ClassFile.FieldType.object "java/lang/String")), Jvm.Cond.code ({ cls := "java/lang/String", name := "<init>", desc := "([C)V" } : Jvm.MethodName) jdk_42_method_3_code (2 : Nat) (Option.none : Option Jvm.ClassFile.FieldType), Jvm.Cond.code ({ cls := "java/lang/String", name := "<init>", desc := "([CIILjava/lang/Void;)V" } : Jvm.MethodName) jdk_42_method_149_code (6 : Nat) (Option.none : Option Jvm.ClassFile.FieldType), Jvm.Cond.code ({ cls := "java/lang/Object", name := "<init>", desc := "()V" } : Jvm.MethodName) object_method_1_code (1 : Nat) (Option.none : Option Jvm.ClassFile.FieldType), Jvm.Cond.code ({ cls := "com/example/congruent/congruent/graph/CodePointOrder", name := "compare", desc := "(Ljava/lang/String;Ljava/lang/String;)I" } : Jvm.MethodName) prog_39_method_2_code (7 : Nat) (Option.some Jvm.ClassFile.FieldType.int), Jvm.Cond.code ({ cls := "java/lang/String", name := "length", desc := "()I" } : Jvm.MethodName) jdk_42_method_54_code (1 : Nat) (Option.some Jvm.ClassFile.FieldType.int), Jvm.Cond.code ({ cls := "java/lang/String", name := "coder", desc := "()B" } : Jvm.MethodName) jdk_42_method_152_code (1 : Nat) (Option.some Jvm.ClassFile.FieldType.byte), Jvm.Cond.code ({ cls := "java/lang/Math", name := "min", desc := "(II)I" } : Jvm.MethodName) jdk_29_method_69_code (2 : Nat) (Option.some Jvm.ClassFile.FieldType.int), Jvm.Cond.code ({ cls := "java/lang/Integer", name := "compare", desc := "(II)I" } : Jvm.MethodName) jdk_33_method_40_code (2 : Nat) (Option.some Jvm.ClassFile.FieldType.int), Jvm.Cond.code ({ cls := "com/example/congruent/congruent/graph/CodePointOrderComparePinLaw", name := "sign", desc := "(I)I" } : Jvm.MethodName) method_5_code (1 : Nat) (Option.some Jvm.ClassFile.FieldType.int), Jvm.Cond.code ({ cls := "com/example/congruent/congruent/graph/CodePointOrderComparePinLaw", name := "ref", desc := "(IIIIII)I" } : Jvm.MethodName) method_6_code (6 : Nat) (Option.some Jvm.ClassFile.FieldType.int), Jvm.Cond.code ({ cls := "com/example/congruent/congruent/graph/CodePointOrderComparePinLaw", name := "put", desc := "([CII)I" } : Jvm.MethodName) method_7_code (4 : Nat) (Option.some Jvm.ClassFile.FieldType.int), Jvm.Cond.code ({ cls := "java/lang/StringUTF16", name := "compress", desc := "([CII)[B" } : Jvm.MethodName) jdk_52_method_16_code (6 : Nat) (Option.some (Jvm.ClassFile.FieldType.array Jvm.ClassFile.FieldType.byte)), Jvm.Cond.code ({ cls := "java/lang/StringUTF16", name := "compress", desc := "([CI[BII)I" } : Jvm.MethodName) jdk_52_method_21_code (7 : Nat) (Option.some Jvm.ClassFile.FieldType.int), Jvm.Cond.code ({ cls := "java/lang/StringUTF16", name := "coderFromArrayLen", desc := "([BI)B" } : Jvm.MethodName) jdk_52_method_15_code (2 : Nat) (Option.some Jvm.ClassFile.FieldType.byte), Jvm.Cond.code ({ cls := "java/lang/StringUTF16", name := "toBytes", desc := "([CII)[B" } : Jvm.MethodName) jdk_52_method_14_code (5 : Nat) (Option.some (Jvm.ClassFile.FieldType.array Jvm.ClassFile.FieldType.byte)), Jvm.Cond.code ({ cls := "java/lang/StringUTF16", name := "newBytesFor", desc := "(I)[B" } : Jvm.MethodName) jdk_52_method_2_code (1 : Nat) (Option.some (Jvm.ClassFile.FieldType.array Jvm.ClassFile.FieldType.byte)), Jvm.Cond.code ({ cls := "java/lang/StringUTF16", name := "newBytesLength", desc := "(I)I" } : Jvm.MethodName) jdk_52_method_3_code (1 : Nat) (Option.some Jvm.ClassFile.FieldType.int), Jvm.Cond.code ({ cls := "java/lang/StringUTF16", name := "putChar", desc := "([BII)V" } : Jvm.MethodName) jdk_52_method_4_code (3 : Nat) (Option.none : Option Jvm.ClassFile.FieldType), Jvm.Cond.code ({ cls := "java/lang/StringUTF16", name := "getChar", desc := "([BI)C" } : Jvm.MethodName) jdk_52_method_5_code (2 : Nat) (Option.some Jvm.ClassFile.FieldType.char), Jvm.Cond.code ({ cls := "java/lang/String", name := "charAt", desc := "(I)C" } : Jvm.MethodName) jdk_42_method_56_code (2 : Nat) (Option.some Jvm.ClassFile.FieldType.char), Jvm.Cond.code ({ cls := "java/lang/String", name := "isLatin1", desc := "()Z" } : Jvm.MethodName) jdk_42_method_154_code (1 : Nat) (Option.some Jvm.ClassFile.FieldType.boolean), Jvm.Cond.code ({ cls := "java/lang/StringUTF16", name := "charAt", desc := "([BI)C" } : Jvm.MethodName) jdk_52_method_83_code (2 : Nat) (Option.some Jvm.ClassFile.FieldType.char), Jvm.Cond.code ({ cls := "java/lang/StringUTF16", name := "checkIndex", desc := "(I[B)V" } : Jvm.MethodName) jdk_52_method_91_code (2 : Nat) (Option.none : Option Jvm.ClassFile.FieldType), Jvm.Cond.code ({ cls := "java/lang/StringUTF16", name := "length", desc := "([B)I" } : Jvm.MethodName) jdk_52_method_6_code (1 : Nat) (Option.some Jvm.ClassFile.FieldType.int), Jvm.Cond.code ({ cls := "java/lang/String", name := "checkIndex", desc := "(II)V" } : Jvm.MethodName) jdk_42_method_155_code (2 : Nat) (Option.none : Option Jvm.ClassFile.FieldType), Jvm.Cond.code ({ cls := "jdk/internal/util/Preconditions", name := "checkIndex", desc := "(IILjava/util/function/BiFunction;)I" } : Jvm.MethodName) jdk_41_method_11_code (3 : Nat) (Option.some Jvm.ClassFile.FieldType.int), Jvm.Cond.code ({ cls := "java/lang/Character", name := "isSurrogate", desc := "(C)Z" } : Jvm.MethodName) jdk_89_method_16_code (1 : Nat) (Option.some Jvm.ClassFile.FieldType.boolean), Jvm.Cond.code ({ cls := "java/lang/StringLatin1", name := "charAt", desc := "([BI)C" } : Jvm.MethodName) jdk_43_method_2_code (2 : Nat) (Option.some Jvm.ClassFile.FieldType.char), Jvm.Cond.code ({ cls := "java/lang/Character", name := "compare", desc := "(CC)I" } : Jvm.MethodName) jdk_89_method_98_code (2 : Nat) (Option.some Jvm.ClassFile.FieldType.int)]
set_option maxRecDepth 65536 in
theorem codes_eq : words1.filter isCode = codes1 := rfl
theorem w_codes : ∀ c ∈ words1.filter isCode, c.before args0 about1 = true := by
  rw [codes_eq]
  intro c hc
  simp only [codes1, List.mem_cons, List.not_mem_nil, or_false] at hc
  rcases hc with rfl | rfl | rfl | rfl | rfl | rfl | rfl | rfl | rfl | rfl | rfl | rfl | rfl | rfl | rfl | rfl | rfl | rfl | rfl | rfl | rfl | rfl | rfl | rfl | rfl | rfl | rfl | rfl | rfl | rfl | rfl | rfl | rfl
  · exact w_c0
  · exact w_c1
  · exact w_c2
  · exact w_c3
  · exact w_c4
  · exact w_c5
  · exact w_c6
  · exact w_c7
  · exact w_c8
  · exact w_c9
  · exact w_c10
  · exact w_c11
  · exact w_c12
  · exact w_c13
  · exact w_c14
  · exact w_c15
  · exact w_c16
  · exact w_c17
  · exact w_c18
  · exact w_c19
  · exact w_c20
  · exact w_c21
  · exact w_c22
  · exact w_c23
  · exact w_c24
  · exact w_c25
  · exact w_c26
  · exact w_c27
  · exact w_c28
  · exact w_c29
  · exact w_c30
  · exact w_c31
  · exact w_c32
set_option maxRecDepth 65536 in
theorem w_t1 : (words1.take 24).all (fun c => isCode c || c.before args0 about1) = true := by decide +kernel
set_option maxRecDepth 65536 in
theorem w_t2 : ((words1.drop 24).take 24).all (fun c => isCode c || c.before args0 about1) = true := by decide +kernel
set_option maxRecDepth 65536 in
theorem w_t3 : (((words1.drop 24).drop 24).take 24).all (fun c => isCode c || c.before args0 about1) = true := by decide +kernel
set_option maxRecDepth 65536 in
theorem w_t4 : ((((words1.drop 24).drop 24).drop 24).take 24).all (fun c => isCode c || c.before args0 about1) = true := by decide +kernel
set_option maxRecDepth 65536 in
theorem w_t5 : (((((words1.drop 24).drop 24).drop 24).drop 24).take 24).all (fun c => isCode c || c.before args0 about1) = true := by decide +kernel
set_option maxRecDepth 65536 in
theorem w_t6 : (((((words1.drop 24).drop 24).drop 24).drop 24).drop 24).all (fun c => isCode c || c.before args0 about1) = true := by decide +kernel
theorem w_tables : (allAtoms (Jvm.Cond.code x code maxLocals ret :: tables_1)).before args0 about1 = true := by
  rw [allAtoms_all]
  show words1.all (fun c => c.before args0 about1) = true
  refine all_split ?_ w_codes
  rw [← List.take_append_drop 24 words1, List.all_append, w_t1, ← List.take_append_drop 24 (words1.drop 24), List.all_append, w_t2, ← List.take_append_drop 24 ((words1.drop 24).drop 24), List.all_append, w_t3, ← List.take_append_drop 24 (((words1.drop 24).drop 24).drop 24), List.all_append, w_t4, ← List.take_append_drop 24 ((((words1.drop 24).drop 24).drop 24).drop 24), List.all_append, w_t5, w_t6]
  rfl
set_option maxRecDepth 65536 in
theorem w_rest : rest_1_c.before args0 about1 = true := by decide +kernel
set_option maxRecDepth 65536 in
theorem w_case : (Jvm.Cond.and given_1 narrow_1).before args0 about1 = true := by decide +kernel
set_option maxRecDepth 65536 in
theorem w_consts : constsHeld consts_1 about1 := Jvm.Lit.constsHeldB_iff.mp (by decide +kernel)
theorem w_applies : (headSpec (Jvm.Cond.code x code maxLocals ret :: tables_1) room_1).applies x e0.platform about1 = true :=
  (Spec.applies_iff w_frames).mpr ⟨w_running, w_runnable, w_alone, w_named, w_hears, w_ripe, w_room, w_tables⟩
theorem atStart : AtStart classFile x code maxLocals ret World_1 tables_1 room_1 Calls_1 rest_1 Pre_1 launch0 p0 e0 about1 theMethod args0 below0 :=
  ⟨lists_1, trivial, launch0.admits_env _ _ _, launch0.least_env, fairChoices_fair.cas, fairChoices_fair.clock, w_frames, w_args, w_heap, w_applies, ⟨w_consts, trivial⟩, w_rest, w_case⟩
end start1
theorem witness_1 : WitnessClaimed_1 := ⟨start1.p0, start1.e0, start1.about1, start1.theMethod, start1.args0, start1.below0, start1.atStart⟩
end Jvm.Pilot.@@N@@
