import JvmDerived
import JvmDerived.Pilot.@@N@@Statement
import JvmDerived.Pilot.@@N@@Code
set_option linter.unusedVariables false
set_option linter.unusedSimpArgs false
set_option maxRecDepth 65536
set_option maxHeartbeats 40000000
namespace Jvm.Pilot.@@N@@
open Jvm Jvm.ClassFile Sem Op Lib Jvm.Free Jvm.Stand Jvm.LawKit Jvm.RoadKit Bundle Jvm.Pilot.@@N@@.Jvm.D
theorem oW {a0 : Array Value} {Z : State} (hw : ∀ d ∈ tables_1, d.before a0 Z = true) {d : Jvm.Cond} (i : Nat) (h : tables_1[i]? = some d) : d.before a0 Z = true := hw _ (List.mem_of_getElem? h)
theorem oMvM {Z s : State} {a0 args : Array Value} {own host : String} {index : Nat} {x : MethodName} (hZ : Z.Warmed39 s.vm) (w : (Jvm.Cond.methodLinkNest own index x host).before a0 Z = true) : (Jvm.Cond.methodLinkNest own index x host).before args s = true := (Cond.methodLinkNest_wide hZ w :)
abbrev uu : Slot := .unset
abbrev ss : Slot := .second
/-- the run from T with g on top comes to a state of which P holds -/
def oWk (tb : Tables) (e : Env) (below : List Frame) (P : State → Prop) (T : State) (g : JFrame) : Prop := ∃ t, Steps tb e below (T.setTop g) t ∧ P t
section OwnA
variable {tb : Tables} {e : Env} {below : List Frame} {P : State → Prop} {T T' : State} {g g' : JFrame}
theorem oWk.st (f : ∀ t, Steps tb e below (T'.setTop g') t → Steps tb e below (T.setTop g) t) (k : oWk tb e below P T' g') : oWk tb e below P T g := k.elim fun t q => ⟨t, f t q.1, q.2⟩
theorem oWk.to (g' : JFrame) (f : ∀ t, Steps tb e below (T'.setTop g') t → Steps tb e below (T.setTop g) t) (k : oWk tb e below P T' g') : oWk tb e below P T g := k.elim fun t q => ⟨t, f t q.1, q.2⟩
theorem oWk.tr (f : Steps tb e below (T.setTop g) (T'.setTop g')) (k : oWk tb e below P T' g') : oWk tb e below P T g := k.elim fun t q => ⟨t, f.trans q.1, q.2⟩
theorem oWk.cast (q : g = g') (k : oWk tb e below P T g') : oWk tb e below P T g := q ▸ k
end OwnA
/-- one stands as before, in another state that left other places written -/
def oStd {p : Program} {l : Launch} {e : Env} {R : Room} {s : State} {m : MethodId} {args : Array Value} {below : List Frame} {meth : Method} {c : Code} {T : State} {locs : List Loc} {cells slots : Nat} (_ : Stand p l e R s m args below meth c T locs cells slots) (T' : State) (L' : List Loc) : Prop := Stand p l e R s m args below meth c T' L' cells slots
/-- the invocation has ended: a value, the heap, the places written -/
def oDn (s : State) (below : List Frame) (Q : Option Value → Heap → List Loc → Prop) (k n : Nat) (t : State) : Prop := t.status = .running ∧ ∃ v L, Ended t below (.returned v) ∧ Q v t.heap L ∧ FrameEnd s (.returned v) t L k n
/-- a contract: called with these arguments on this heap the body returns and Q holds -/
abbrev oCon (l : Launch) (Z : State) (y : MethodName) (bytes : ByteArray) (maxL : Nat) (ret : Option FieldType) (ws : List Jvm.Cond) (rm : Room) (as' : Array Value) (h0 : Heap) (Q : Option Value → Heap → List Loc → Prop) : Prop :=
  MetFree l y (head1 (Jvm.Cond.code y bytes maxL ret :: ws) rm) (fun a U => a = as' ∧ Z.Warmed39 U.vm ∧ U.heap = h0) (fun _ _ _ _ _ => True) (fun _ U o U' => ∃ v L, o = .returned v ∧ Q v U'.heap L ∧ FrameEnd U o U' L rm.cells rm.slots)
theorem oCon.of {l : Launch} {Z : State} {y : MethodName} {bytes : ByteArray} {maxL : Nat} {ret : Option FieldType} {ws : List Jvm.Cond} {rm : Room} {as' : Array Value} {h0 : Heap} {Q : Option Value → Heap → List Loc → Prop} (hp : plainFor y = true)
    (body : ∀ (p : Program) (e : Env) (s : State) (m : MethodId) (below : List Frame) (meth : Method) (c : Code) (T : State), Stand p l e rm s m as' below meth c T [] 0 0 → p.tables.exec = Jvm.exec → c.code = bytes → c.maxLocals = maxL → s.vm.findClass y.cls = some m.cls → meth.name = y.name → meth.sig.returnType = ret → meth.locks = false → Z.Warmed39 s.vm → T.heap = h0 → oWk p.tables e below (oDn s below Q rm.cells rm.slots) T (entryFrame m as' maxL)) :
    oCon l Z y bytes maxL ret ws rm as' h0 Q := by
  refine MetFree.of_bodySF hp hisR ?_
  intro p e s m args below meth c s₁ Bd hml0 hP hK
  obtain ⟨rfl, hZ, hh⟩ := hP
  have e0 : s₁.heap = h0 := by rw [← hh, Bd.state]; rfl
  obtain ⟨t, h1, h2, v, L, h3, h4, h5⟩ := body p e s m below meth c s₁ (Stand.of_body Bd) Bd.exec Bd.bytes hml0 (findClass_of_methodNamed Bd.named) (name_of_methodNamed Bd.named Bd.method).1 Bd.returns Bd.notSynchronized hZ e0
  exact ⟨t, _, h1, h2, h3, v, L, rfl, h4, h5⟩
section OwnB
variable {p : Program} {l : Launch} {e : Env} {R : Room} {s : State} {m : MethodId} {args : Array Value} {below : List Frame} {meth : Method} {c : Code} {T : State} {locs : List Loc} {cells slots : Nat} {Q : Option Value → Heap → List Loc → Prop} {k n pc : Nat} {Ls : Array Slot}
theorem oRet (X : Stand p l e R s m args below meth c T locs cells slots) (hx : p.tables.exec = Jvm.exec) (hlk : meth.locks = false) {w : Value} {t : FieldType} {i : Instr} {rest : List Value} (hret : meth.sig.returnType = some t) (hn : narrow t w = w)
    (hi : (i = .ireturn ∧ (t = .int ∨ t = .boolean ∨ t = .byte ∨ t = .char ∨ t = .short) ∧ ∃ z, w = .int z) ∨ (i = .lreturn ∧ t = .long ∧ ∃ z, w = .long z) ∨ (i = .dreturn ∧ t = .double ∧ ∃ z, w = .double z) ∨ (i = .freturn ∧ t = .float ∧ ∃ z, w = .float z) ∨ (i = .areturn ∧ t.isReference = true ∧ w.isRef = true))
    (hd : decode c.code pc = .ok (i, 1)) (hQ : Q (some w) T.heap locs) (hk : cells ≤ k) (hs : slots ≤ n) : oWk p.tables e below (oDn s below Q k n) T (mkF m pc Ls (w :: rest)) := by
  obtain ⟨fs, hr, hrun, hended, hW, hsame⟩ := X.leave (v := some w) (fun h => by rw [hret] at h; cases h) hlk
  exact ⟨_, retOut X hx hret hn hi hd hr, hrun, _, _, hended, hQ, ⟨_, rfl⟩, hW, hsame.mono hk hs⟩
theorem oRetI (X : Stand p l e R s m args below meth c T locs cells slots) (hx : p.tables.exec = Jvm.exec) (hlk : meth.locks = false) {z : Int32} {rest : List Value} (hret : meth.sig.returnType = some .int) (hd : decode c.code pc = .ok (.ireturn, 1)) (hQ : Q (some (.int z)) T.heap locs) (hk : cells ≤ k) (hs : slots ≤ n) :
    oWk p.tables e below (oDn s below Q k n) T (mkF m pc Ls (.int z :: rest)) := oRet X hx hlk hret rfl (Or.inl ⟨rfl, Or.inl rfl, _, rfl⟩) hd hQ hk hs
theorem oRetZ (X : Stand p l e R s m args below meth c T locs cells slots) (hx : p.tables.exec = Jvm.exec) (hlk : meth.locks = false) {z : Int32} {rest : List Value} (hret : meth.sig.returnType = some .boolean) (hd : decode c.code pc = .ok (.ireturn, 1)) (hz : z = 0 ∨ z = 1) (hQ : Q (some (.int z)) T.heap locs) (hk : cells ≤ k) (hs : slots ≤ n) :
    oWk p.tables e below (oDn s below Q k n) T (mkF m pc Ls (.int z :: rest)) := oRet X hx hlk hret (by rcases hz with rfl | rfl <;> rfl) (Or.inl ⟨rfl, Or.inr (Or.inl rfl), _, rfl⟩) hd hQ hk hs
theorem oRetN (X : Stand p l e R s m args below meth c T locs cells slots) (hx : p.tables.exec = Jvm.exec) (hlk : meth.locks = false) {z : Int32} {t : FieldType} {rest : List Value} (hret : meth.sig.returnType = some t) (ht : t = .byte ∨ t = .char ∨ t = .short) (hn : narrow t (.int z) = .int z) (hd : decode c.code pc = .ok (.ireturn, 1)) (hQ : Q (some (.int z)) T.heap locs) (hk : cells ≤ k) (hs : slots ≤ n) :
    oWk p.tables e below (oDn s below Q k n) T (mkF m pc Ls (.int z :: rest)) := oRet X hx hlk hret hn (Or.inl ⟨rfl, Or.inr (Or.inr ht), _, rfl⟩) hd hQ hk hs
theorem oRetD (X : Stand p l e R s m args below meth c T locs cells slots) (hx : p.tables.exec = Jvm.exec) (hlk : meth.locks = false) {z : UInt64} {rest : List Value} (hret : meth.sig.returnType = some .double) (hd : decode c.code pc = .ok (.dreturn, 1)) (hQ : Q (some (.double z)) T.heap locs) (hk : cells ≤ k) (hs : slots ≤ n) :
    oWk p.tables e below (oDn s below Q k n) T (mkF m pc Ls (.double z :: rest)) := oRet X hx hlk hret rfl (Or.inr (Or.inr (Or.inl ⟨rfl, rfl, _, rfl⟩))) hd hQ hk hs
theorem oNarR {t : FieldType} {w : Value} (ht : t.isReference = true) (hw : w.isRef = true) : narrow t w = w := by cases t <;> cases w <;> simp_all [narrow, FieldType.isReference, Value.isRef]
theorem oRetA (X : Stand p l e R s m args below meth c T locs cells slots) (hx : p.tables.exec = Jvm.exec) (hlk : meth.locks = false) {w : Value} {t : FieldType} {rest : List Value} (hret : meth.sig.returnType = some t) (ht : t.isReference = true) (hw : w.isRef = true) (hd : decode c.code pc = .ok (.areturn, 1)) (hQ : Q (some w) T.heap locs) (hk : cells ≤ k) (hs : slots ≤ n) :
    oWk p.tables e below (oDn s below Q k n) T (mkF m pc Ls (w :: rest)) := oRet X hx hlk hret (oNarR ht hw) (Or.inr (Or.inr (Or.inr (Or.inr ⟨rfl, ht, hw⟩)))) hd hQ hk hs
theorem oRetV (X : Stand p l e R s m args below meth c T locs cells slots) (hx : p.tables.exec = Jvm.exec) (hlk : meth.locks = false) (hret : meth.sig.returnType = none) (hd : decode c.code pc = .ok (.return_, 1)) (hQ : Q none T.heap locs) (hk : cells ≤ k) (hs : slots ≤ n) :
    oWk p.tables e below (oDn s below Q k n) T (mkF m pc Ls []) := by
  obtain ⟨fs, hr, hrun, hended, hW, hsame⟩ := X.leave (v := none) (fun _ => rfl) hlk
  exact ⟨_, X.returnOut hx hret hd hr, hrun, _, _, hended, hQ, ⟨_, rfl⟩, hW, hsame.mono hk hs⟩
end OwnB
/-- the heap is kept but for ws and new cells; the places written lie there -/
def oKp (h0 h : Heap) (ws : List Addr) (L : List Loc) : Prop := Keep h0 h ws ∧ ∀ y ∈ L, y.base ∈ ws ∨ h0.size ≤ y.base
section OwnC
variable {Z : State} {h0 h h' : Heap} {ws ws' : List Addr} {L L' : List Loc} {a : Addr} {sl : Nat} {v : Value}
theorem oKp.nil (h : Heap) (ws : List Addr) : oKp h h ws [] := ⟨Keep.refl _ _, fun _ q => nomatch q⟩
theorem oKp.ext (K : oKp h0 h ws L) (E : Ext h h') : oKp h0 h' ws L := ⟨K.1.ext E, K.2⟩
theorem oKp.wr (K : oKp h0 h ws L) (W : Wr h h' a sl v) (q : a ∈ ws ∨ h0.size ≤ a) : oKp h0 h' ws (L ++ [⟨a, sl⟩]) := ⟨K.1.wr W q, fun y hy => (List.mem_append.mp hy).elim (K.2 y) fun hy => by cases List.mem_singleton.mp hy; exact q⟩
theorem oKp.call (K : oKp h0 h ws L) (K' : oKp h h' ws' L') (q : ∀ x ∈ ws', x ∈ ws ∨ h0.size ≤ x) : oKp h0 h' ws (L ++ L') := ⟨K.1.trans K'.1 q, fun y hy => (List.mem_append.mp hy).elim (K.2 y) fun hy => (K'.2 y hy).elim (q _) fun z => Or.inr (Nat.le_trans K.1.1 z)⟩
theorem oKp.le (K : oKp h0 h ws L) : h0.size ≤ h.size := K.1.1
theorem oKp.old (K : oKp h0 h ws L) (O : Ext Z.heap h0) (q : ∀ x ∈ ws, Z.heap.size ≤ x) : Ext Z.heap h := ⟨Nat.le_trans O.1 K.1.1, fun x c hc => K.1.2.1 x c (O.2 x c hc) fun hx => absurd (Array.getElem?_eq_some_iff.mp hc).1 (Nat.not_lt.mpr (q x hx))⟩
theorem oKp.fr (K : oKp h0 h [] L) : Fr h0.size L := fun y hy => (K.2 y hy).elim (fun q => nomatch q) id
theorem oExtRefl (h : Heap) : Ext h h := ⟨Nat.le_refl _, fun _ _ q => q⟩
theorem Ext.keep0 (E : Ext h h') : Keep h h' [] := ⟨E.1, fun x c q _ => E.2 x c q, fun x c q => ⟨c, E.2 x c q, rfl, rfl, rfl⟩⟩
end OwnC
/-- a truth as an int -/
def oBi (P : Prop) [Decidable P] : Int32 := if P then 1 else 0
theorem oBi_t {P : Prop} [Decidable P] (h : P) : oBi P = 1 := if_pos h
theorem oBi_f {P : Prop} [Decidable P] (h : ¬ P) : oBi P = 0 := if_neg h
theorem oBi_ne {P : Prop} [Decidable P] (h : P) : ¬ oBi P = 0 := by rw [oBi_t h]; decide
theorem oBi_01 (P : Prop) [Decidable P] : oBi P = 0 ∨ oBi P = 1 := by by_cases h : P; exact Or.inr (if_pos h); exact Or.inl (if_neg h)
theorem oBi_0 {P : Prop} [Decidable P] (h : oBi P = 0) : ¬ P := fun q => oBi_ne q h
theorem oBi_1 {P : Prop} [Decidable P] (h : ¬ oBi P = 0) : P := Decidable.byContradiction fun q => h (oBi_f q)
section OwnD
variable {args : Array Value} {Z : State} {t u : Term} {C n d K : String} {a b : Addr} {k : Int32}
theorem oFldR (ht : t.eval args Z none [] Z = some (.ref a)) (hu : u.eval args Z none [] Z = some (.ref b)) (h : (Jvm.Cond.eq (.field t C n d) u).value args Z none Z [] = some true) : Fld Z Z.heap a C n d (.ref b) := by
  obtain ⟨x, y, e1, e2, k1, k2⟩ := cmp_v (Or.inl h)
  cases hu.symm.trans e2
  have hx : x.isRef = true := k2.2
  have q := gotT (eq_R e1 e2 hx rfl) h
  subst q
  exact Fld.start ((fld_at ht).symm.trans e1)
theorem oFldI (ht : t.eval args Z none [] Z = some (.ref a)) (h : (Jvm.Cond.eq (.field t C n d) (.int k)).value args Z none Z [] = some true) : Fld Z Z.heap a C n d (.int k) := by
  obtain ⟨x, y, e1, e2, k1, k2⟩ := cmp_v (Or.inl h)
  cases (Option.some.inj e2 : Value.int k = y)
  obtain ⟨z, rfl⟩ := (k2 : ∃ z, x = .int z)
  have q : z = k := by
    have h' := h
    simp only [Cond.value, e1, e2] at h'
    simpa using h'
  subst q
  exact Fld.start ((fld_at ht).symm.trans e1)
theorem oFldX (ht : t.eval args Z none [] Z = some (.ref a)) (h : (Jvm.Cond.exactly (.field t C n d) K).value args Z none Z [] = some true) : ∃ b, (Term.field t C n d).eval args Z none [] Z = some (.ref b) ∧ Fld Z Z.heap a C n d (.ref b) ∧ Exa Z Z.heap b K := by
  obtain ⟨b, e1⟩ := exa_v h
  exact ⟨b, e1, Fld.start ((fld_at ht).symm.trans e1), Exa.start e1 h⟩
theorem oNe32 {x y : Int32} (h : ¬ x = y) : x.toInt ≠ y.toInt := fun q => h (Int32.toInt_inj.mp q)
end OwnD
section OwnE
variable {Z : State} {a0 : Array Value} {C O K : String} {n : Nat} {h h' : Heap} {a : Addr} {ws : List Addr}
theorem oNSroot (wo : (Jvm.Cond.noSuperclass O).before a0 Z = true) (wk : (Jvm.Cond.instantiable K n).before a0 Z = true) (h2 : O ≠ K) : NS Z O K := by
  obtain ⟨t, kt, g1, -⟩ := Cond.instantiable_spec wk
  obtain ⟨c, k, a1, a2, a3, -, -⟩ := Cond.noSuperclass_spec wo
  have ne := ids_ne a1 g1 h2
  refine ⟨c, t, a1, g1, fun fuel => ?_⟩
  cases fuel with
  | zero => rfl
  | succ f => simp [Vm.isSubclassAux, ne, a2, a3]
theorem oNSno (w : (Jvm.Cond.superclass C O).before a0 Z = true) (wk : (Jvm.Cond.instantiable K n).before a0 Z = true) (N : NS Z C K) (h1 : C ≠ K) : ∃ c t, Z.vm.findClass C = some c ∧ Z.vm.findClass K = some t ∧ Z.vm.assignable c t = false := by
  obtain ⟨t, kt, g1, g2, g3, g4, -⟩ := Cond.instantiable_spec wk
  obtain ⟨c, t', b0, b1, b2⟩ := N
  cases g1.symm.trans b1
  obtain ⟨p, k, kp, e1, e2, e3, e4, e5, -, e7⟩ := Cond.superclass_spec b0 w
  have ne := ids_ne b0 g1 h1
  have gi : kt.isInterface = false := by simp only [Bool.or_eq_false_iff] at g4; exact g4.1
  refine ⟨c, t, b0, g1, ?_⟩
  show Z.vm.assignableAux (255 + 1) c t = false
  simp [Vm.assignableAux, ne, e2, g2, e5, g3, gi, Vm.isSubclass, b2]
theorem oNotInst (w : (Jvm.Cond.superclass C O).before a0 Z = true) (wo : (Jvm.Cond.noSuperclass O).before a0 Z = true) (wk : (Jvm.Cond.instantiable K n).before a0 Z = true) (h1 : C ≠ K) (h2 : O ≠ K) : ∃ c t, Z.vm.findClass C = some c ∧ Z.vm.findClass K = some t ∧ Z.vm.assignable c t = false :=
  oNSno w wk (NS.step w (oNSroot wo wk h2) h1) h1
theorem oInsKeep {b : Bool} (F : Ins Z h a K b) (H : Keep h h' ws) : Ins Z h' a K b := by
  obtain ⟨cell, cT, h1, h2, h3⟩ := F
  obtain ⟨c', e1, e2, e3, -⟩ := H.2.2 _ _ h1
  exact ⟨c', cT, e1, h2, by rw [e2, e3]; exact h3⟩
end OwnE
theorem oNot0 {args : Array Value} {Z : State} {t : Term} {x : Int32} (h : t.eval args Z none [] Z = some (.int x)) (hn : (Jvm.Cond.not (.eq t (.int 0))).value args Z none Z [] = some true) : ¬ x = (0 : Int32) := fun q => by
  subst q
  have e : (Jvm.Cond.eq t (.int 0)).value args Z none Z [] = some true := eq_i h (Term.int_eval 0) rfl
  simp [Cond.value] at hn e
  rw [e] at hn
  simp at hn
theorem oFldD {args : Array Value} {Z : State} {t : Term} {C n d : String} {a : Addr} {k : Int64} (ht : t.eval args Z none [] Z = some (.ref a)) (h : (Jvm.Cond.eq (.field t C n d) (.op1 .bitsD (.long k))).value args Z none Z [] = some true) : Fld Z Z.heap a C n d (.double k.toUInt64) := by
  obtain ⟨x, y, e1, e2, k1, k2⟩ := cmp_v (Or.inl h)
  have e3 : (Term.op1 .bitsD (.long k)).eval args Z none [] Z = some (.double k.toUInt64) := rfl
  cases e3.symm.trans e2
  obtain ⟨z, rfl⟩ := (k2 : ∃ z, x = .double z)
  have q : z = k.toUInt64 := by
    have h' := h
    simp only [Cond.value, e1, e2] at h'
    simpa using h'
  subst q
  exact Fld.start ((fld_at ht).symm.trans e1)
section OwnF
variable {p : Program} {l : Launch} {e : Env} {R : Room} {s : State} {m : MethodId} {args : Array Value} {below : List Frame} {meth : Method} {c : Code} {T : State} {locs : List Loc} {cells slots : Nat} {Z : State} {a0 : Array Value} {h : Heap} {own C : String} {index : Nat} {a mr : Addr}
/-- the Class object of C has been made: mr -/
def oMir (Z : State) (C : String) (mr : Addr) : Prop := ∃ (c : ClassId) (k : Class), Z.vm.findClass C = some c ∧ Z.vm.classes[c]? = some k ∧ k.mirror = some mr
abbrev oGc : MethodName := ⟨"java/lang/Object", "getClass", "()Ljava/lang/Class;"⟩
theorem oGcls (X : Stand p l e R s m args below meth c T locs cells slots) (hx : p.tables.exec = Jvm.exec) (hZ : Z.Warmed39 s.vm) (hown : s.vm.findClass own = some m.cls) (w1 : (Jvm.Cond.methodLink own index oGc).before a0 Z = true) (w2 : (Jvm.Cond.declares oGc).before a0 Z = true) (w4 : (Jvm.Cond.selects C oGc oGc).before a0 Z = true) (w5 : (Jvm.Cond.instanceMethod oGc).before a0 Z = true) (w6 : (Jvm.Cond.native oGc).before a0 Z = true) (eT : T.heap = h) (E : Exa Z h a C) (M : oMir Z C mr)
    {g : JFrame} (hg : g.method = m) (hsize : g.locals.size = c.maxLocals) {rest : List Value} (hs : g.stack = .ref a :: rest) (hd : decode c.code g.pc = .ok (.invokevirtual index, 3)) (hf : 1 ≤ R.frames) {W : Nat} (hW : 2 * g.monitorRoom + (rest.map fun v => v.category).sum ≤ W) (hl : W + (nativeFrameWords "java/lang/Object" "getClass" 1 + 11) ≤ R.locals) :
    ∃ T', Stand p l e R s m args below meth c T' locs cells slots ∧ T'.heap = h ∧ ∀ target, Steps p.tables e below (T'.setTop { g with pc := g.pc + 3, stack := .ref mr :: rest }) target → Steps p.tables e below (T.setTop g) target := by
  obtain ⟨cB, kB, i1, i2, i3⟩ := isOf hZ eT E
  obtain ⟨cc, kc, m1, m2, m3⟩ := M
  have i0 := i1
  rw [hZ.alike.findClass] at i1
  cases i1.symm.trans m1
  obtain ⟨k', q, ek⟩ := hZ.alike.2.2 _ _ m2
  obtain ⟨vm', X', st⟩ := X.getClassOf hx hown (mvT hZ w1) (mvT hZ w2) (notFace_of_selects (args := #[]) (mvT hZ w4)) (mvT hZ w4) (mvT hZ w5) (mvT hZ w6) i0 i3 q (by rw [ek]; exact m3) hg hsize hs hd hf (by omega)
  exact ⟨_, X', eT, st⟩
theorem oLdcM (X : Stand p l e R s m args below meth c T locs cells slots) (hx : p.tables.exec = Jvm.exec) (hZ : Z.Warmed39 s.vm) (hown : s.vm.findClass own = some m.cls) (w : (Jvm.Cond.classLink own index C).before a0 Z = true) (eT : T.heap = h) (M : oMir Z C mr)
    {g : JFrame} (hg : g.method = m) (hd : decode c.code g.pc = .ok (.ldc index, 2)) : ∃ T', Stand p l e R s m args below meth c T' locs cells slots ∧ T'.heap = h ∧ ∀ target, Steps p.tables e below (T'.setTop { g with pc := g.pc + 2, stack := .ref mr :: g.stack }) target → Steps p.tables e below (T.setTop g) target := by
  obtain ⟨cc, kc, m1, m2, m3⟩ := M
  obtain ⟨k', q, ek⟩ := hZ.alike.2.2 _ _ m2
  have f1 : s.vm.findClass C = some cc := by rw [hZ.alike.findClass]; exact m1
  have f2 : k'.mirror = some mr := by rw [ek]; exact m3
  obtain ⟨vm', X', st⟩ := X.ldcMirror hx hown (mvT hZ w) (a := mr) (by simp [Term.eval, f1, q, f2]) hg hd
  exact ⟨_, X', eT, st⟩
end OwnF
theorem oArr0 {args : Array Value} {Z : State} {t : Term} {a : Addr} {ty : FieldType} {dv : Value} (hf : Fit Z) (ev : t.eval args Z none [] Z = some (.ref a)) (h1 : (Jvm.Cond.arrayOf t ty).value args Z none Z [] = some true) (h2 : (Jvm.Cond.eq (.length t) (.int 0)).value args Z none Z [] = some true) : ∃ k, Arv Z Z.heap a k ty 0 [] dv := by
  obtain ⟨cl, A⟩ := Arr.start ev h1
  have ha : Z.arrayAt? a = some cl := Arr.fin (Vm.Alike.refl _) A
  have hlt : cl.slots.size < 2 ^ 31 := by
    apply Decidable.byContradiction
    intro q
    have e : (Term.length t).eval args Z none [] Z = none := by
      cases hv : (Term.length t).eval args Z none [] Z with
      | none => rfl
      | some y =>
        simp only [Term.eval, Option.bind_eq_bind] at hv
        rw [ev] at hv
        simp [ha, q] at hv
    simp [Cond.value, e] at h2
  have e : (Term.length t).eval args Z none [] Z = some (.int cl.slots.size.toInt32) := len_f ev ha hlt
  have z : cl.slots.size.toInt32 = 0 := by
    have h' := h2
    simp only [Cond.value, e, Term.int_eval] at h'
    simpa using h'
  have z' : cl.slots.size = 0 := by
    have := len_toInt hlt
    rw [z] at this
    have r : (0 : Int32).toInt = 0 := by decide
    omega
  exact ⟨_, Arv.start hf A hlt z (by decide) rfl trivial⟩
theorem oNar01 {z : Int32} (hz : z = 0 ∨ z = 1) : narrow .boolean (.int z) = .int z := by rcases hz with rfl | rfl <;> rfl
theorem oFitC {x : Int32} (h : 0 ≤ x.toInt ∧ x.toInt < 256) : fits .char (.int x) = true := by
  have e : x.toUInt32.toUInt16.toUInt32.toInt32 = x := by
    have a := c_i2c x
    apply Int32.toInt_inj.mp
    omega
  have q := fits_nar_char x
  have r : nar .char x = x := e
  rw [r] at q; exact q
section OwnH
variable {p : Program} {l : Launch} {e : Env} {R : Room} {s : State} {m : MethodId} {args : Array Value} {below : List Frame} {meth : Method} {c : Code} {T : State} {locs : List Loc} {cells slots : Nat} {Z : State} {a0 : Array Value} {EL : List (String × Nat)} {h h' h0 : Heap} {vm : Vm} {ws : List Addr} {a : Addr} {sl : Nat} {v : Value}
/-- what is known of the tables since the start: no pair of the intern table is old; the constants held still hold their texts -/
def oB (Z : State) (EL : List (String × Nat)) (s : State) (h0 : Heap) (vm : Vm) (h : Heap) : Prop := (∃ k0, s.Since vm k0 ∧ k0 ≤ h.size) ∧ CHr Z EL s.vm h0 vm h
theorem oB.ext (B : oB Z EL s h0 vm h) (E : Ext h h') : oB Z EL s h0 vm h' := ⟨B.1.imp fun _ q => ⟨q.1, Nat.le_trans q.2 E.1⟩, B.2.trans (CHr.ext E B.2.1)⟩
theorem oB.new {o : Addr} (B : oB Z EL s h0 vm h) (q : h.size ≤ o) : Safe Z EL vm h o := Safe.new q
theorem oB.wr (B : oB Z EL s h0 vm h) (W : Wr h h' a sl v) (S : Safe Z EL vm h a) : oB Z EL s h0 vm h' := ⟨B.1.imp fun _ q => ⟨q.1, by rw [W.size]; exact q.2⟩, B.2.trans (CHr.wr W S B.2.1)⟩
theorem oB.keep (B : oB Z EL s h0 vm h) (K : Keep h h' ws) (S : ∀ x ∈ ws, Safe Z EL vm h x) : oB Z EL s h0 vm h' := ⟨B.1.imp fun _ q => ⟨q.1, Nat.le_trans q.2 K.1⟩, B.2.trans (CHr.keep K S B.2.1)⟩
def oDnH (Z : State) (EL : List (String × Nat)) (s : State) (h0 : Heap) (below : List Frame) (Q : Option Value → Heap → List Loc → Prop) (k n : Nat) (t : State) : Prop := t.status = .running ∧ ∃ v L, Ended t below (.returned v) ∧ Q v t.heap L ∧ CHr Z EL s.vm h0 t.vm t.heap ∧ ReturnedEndW s (.returned v) t L k n
/-- a contract of a body that may load String constants; sf: objects that no constant's text lies in -/
abbrev oConH (l : Launch) (Z : State) (EL : List (String × Nat)) (y : MethodName) (bytes : ByteArray) (maxL : Nat) (ret : Option FieldType) (ws : List Jvm.Cond) (rm : Room) (as' : Array Value) (h0 : Heap) (sf : List Addr) (Q : Option Value → Heap → List Loc → Prop) : Prop :=
  MetFree l y (head1 (Jvm.Cond.code y bytes maxL ret :: ws) rm) (fun a U => a = as' ∧ Z.Warmed39 U.vm ∧ U.heap = h0 ∧ CHv Z EL U.vm h0 ∧ ∀ x ∈ sf, Safe Z EL U.vm h0 x) (fun _ _ _ _ _ => True) (fun _ U o U' => ∃ v L, o = .returned v ∧ Q v U'.heap L ∧ CHr Z EL U.vm U.heap U'.vm U'.heap ∧ ReturnedEndW U o U' L rm.cells rm.slots)
theorem oConH.of {l : Launch} {Z : State} {EL : List (String × Nat)} {y : MethodName} {bytes : ByteArray} {maxL : Nat} {ret : Option FieldType} {ws : List Jvm.Cond} {rm : Room} {as' : Array Value} {h0 : Heap} {sf : List Addr} {Q : Option Value → Heap → List Loc → Prop} (hp : plainFor y = true)
    (body : ∀ (p : Program) (e : Env) (s : State) (m : MethodId) (below : List Frame) (meth : Method) (c : Code) (T : State) (vm : Vm), Stand p l e rm (s.setVm vm) m as' below meth c T [] 0 0 → p.tables.exec = Jvm.exec → c.code = bytes → c.maxLocals = maxL → (s.setVm vm).vm.findClass y.cls = some m.cls → meth.name = y.name → meth.sig.returnType = ret → meth.locks = false → Z.Warmed39 (s.setVm vm).vm → T.heap = h0 → oB Z EL s h0 vm h0 → (∀ x ∈ sf, Safe Z EL vm h0 x) → oWk p.tables e below (oDnH Z EL s h0 below Q rm.cells rm.slots) T (entryFrame m as' maxL)) :
    oConH l Z EL y bytes maxL ret ws rm as' h0 sf Q := by
  refine MetFree.of_bodySF hp hisR ?_
  intro p e s m args below meth c s₁ Bd hml0 hP hK
  obtain ⟨rfl, hZ, hh, hC, hs⟩ := hP
  have e0 : s₁.heap = h0 := by rw [← hh, Bd.state]; rfl
  obtain ⟨t, h1, h2, v, L, h3, h4, h5, h6⟩ := body p e s m below meth c s₁ s.vm (Stand.of_body Bd) Bd.exec Bd.bytes hml0 (findClass_of_methodNamed Bd.named) (name_of_methodNamed Bd.named Bd.method).1 Bd.returns Bd.notSynchronized hZ e0 ⟨⟨h0.size, (State.WarmedH.refl s).since _, Nat.le_refl _⟩, CHr.refl hC⟩ hs
  exact ⟨t, _, h1, h2, h3, v, L, rfl, h4, by rw [hh]; exact h5, h6⟩
section Rets
variable {Q : Option Value → Heap → List Loc → Prop} {k n pc : Nat} {Ls : Array Slot}
theorem oRetH (X : Stand p l e R (s.setVm vm) m args below meth c T locs cells slots) (hx : p.tables.exec = Jvm.exec) (hlk : meth.locks = false) (hZ : Z.Warmed39 (s.setVm vm).vm) (hEL : EW Z a0 EL) (e0 : T.heap = h) (B : oB Z EL s h0 vm h) {w : Value} {t : FieldType} {i : Instr} {rest : List Value} (hret : meth.sig.returnType = some t) (hn : narrow t w = w)
    (hi : (i = .ireturn ∧ (t = .int ∨ t = .boolean ∨ t = .byte ∨ t = .char ∨ t = .short) ∧ ∃ z, w = .int z) ∨ (i = .lreturn ∧ t = .long ∧ ∃ z, w = .long z) ∨ (i = .dreturn ∧ t = .double ∧ ∃ z, w = .double z) ∨ (i = .freturn ∧ t = .float ∧ ∃ z, w = .float z) ∨ (i = .areturn ∧ t.isReference = true ∧ w.isRef = true))
    (hd : decode c.code pc = .ok (i, 1)) (hQ : Q (some w) T.heap locs) (hk : cells ≤ k) (hs : slots ≤ n) : oWk p.tables e below (oDnH Z EL s h0 below Q k n) T (mkF m pc Ls (w :: rest)) := by
  obtain ⟨⟨k0, hS, hk0⟩, C⟩ := B
  obtain ⟨fs, hr, hrun, hended, hW⟩ := X.leaveW hS (by rw [e0]; exact hk0) (v := some w) (fun h => by rw [hret] at h; cases h) hlk
  have C2 := C.trans (CHv.at X hZ hEL C.1)
  refine ⟨_, retOut X hx hret hn hi hd hr, hrun, _, _, hended, hQ, ?_, hW.1, hW.2.1, hW.2.2.1, hW.2.2.2.mono hk hs⟩
  show CHr Z EL s.vm h0 T.vm T.heap
  rw [e0]; exact C2
theorem oRetHV (X : Stand p l e R (s.setVm vm) m args below meth c T locs cells slots) (hx : p.tables.exec = Jvm.exec) (hlk : meth.locks = false) (hZ : Z.Warmed39 (s.setVm vm).vm) (hEL : EW Z a0 EL) (e0 : T.heap = h) (B : oB Z EL s h0 vm h) (hret : meth.sig.returnType = none) (hd : decode c.code pc = .ok (.return_, 1)) (hQ : Q none T.heap locs) (hk : cells ≤ k) (hs : slots ≤ n) :
    oWk p.tables e below (oDnH Z EL s h0 below Q k n) T (mkF m pc Ls []) := by
  obtain ⟨⟨k0, hS, hk0⟩, C⟩ := B
  obtain ⟨fs, hr, hrun, hended, hW⟩ := X.leaveW hS (by rw [e0]; exact hk0) (v := none) (fun _ => rfl) hlk
  have C2 := C.trans (CHv.at X hZ hEL C.1)
  refine ⟨_, X.returnOut hx hret hd hr, hrun, _, _, hended, hQ, ?_, hW.1, hW.2.1, hW.2.2.1, hW.2.2.2.mono hk hs⟩
  show CHr Z EL s.vm h0 T.vm T.heap
  rw [e0]; exact C2
end Rets
/-- a callee that may load String constants, by its contract -/
theorem oBackH {y : MethodName} {bytes : ByteArray} {maxL : Nat} {ret : Option FieldType} {rm : Room} {len W : Nat} {as' : Array Value} {Q : Option Value → Heap → List Loc → Prop} {sf : List Addr}
    (hM : oConH l Z EL y bytes maxL ret [] rm as' h sf Q) (hZ : Z.Warmed39 (s.setVm vm).vm) (wc : (Jvm.Cond.code y bytes maxL ret).before a0 Z = true) (wz : (Jvm.Cond.initialized y.cls).before a0 Z = true) (hf : rm.frames + 1 ≤ R.frames) (hl : W + (maxL + 11) + rm.locals ≤ R.locals) (hEL : EW Z a0 EL) (H : CHv Z EL vm h) (hs : ∀ x ∈ sf, x < h.size ∧ Safe Z EL vm h x) :
    BackS l R p e below (s.setVm vm) args y len W (fun A a => a = as' ∧ A.U.heap = h ∧ A.cells + rm.cells ≤ R.cells ∧ A.slots + rm.slots ≤ R.slots)
      (fun A _ v B => ∃ L, Q v B.U.heap L ∧ B.locs = A.locs ++ L ∧ B.cells = A.cells + rm.cells ∧ B.slots = A.slots + rm.slots ∧ CHr Z EL vm h B.U.vm B.U.heap) := by
  refine BackS.of_freeW (bytes := bytes) (maxL := maxL) (ret := ret) (E := fun _ first o t L k n => k = rm.cells ∧ n = rm.slots ∧ (∃ v, o = .returned v ∧ Q v t.heap L) ∧ CHr Z EL first.vm first.heap t.vm t.heap) hM hf hl ?_ ?_ (fun _ _ _ _ _ _ _ _ _ => trivial) ?_ ?_
  · intro m meth c A a Y hp
    have hU : Z.Warmed39 A.U.vm := wtrans (s := s.setVm vm) hZ Y.warmed
    exact ⟨by show (Cond.and _ .tt).before a A.U = true; rw [Cond.before_and, mv hU wc]; rfl, mv hU wc, mv hU wz, hp.2.2.1, hp.2.2.2⟩
  · intro m meth c A a g mk Y hp
    have D := CHv.at Y hZ hEL H
    exact ⟨hp.1, wtrans (s := s.setVm vm) hZ Y.warmed, hp.2.1, D.1, fun x hx => D.safe (hs x hx).1 (hs x hx).2⟩
  · rintro _ _ _ _ ⟨v, L, h1, h2, h3, h4⟩
    exact ⟨L, _, _, h4, rfl, rfl, ⟨v, h1, h2⟩, h3⟩
  · rintro m meth c A a g mk v t L k n Y hp _ _ ⟨e1, e2, ⟨v', e3, e4⟩, e5⟩
    cases e3; subst e1 e2
    refine ⟨L, e4, rfl, rfl, rfl, (CHv.at Y hZ hEL H).trans ?_⟩
    rw [← hp.2.1]; exact e5
/-- the tables behind such a call -/
theorem oB.call {U : State} (B : oB Z EL s h0 vm h) (hT : T.heap = h) (h2 : (s.setVm vm).Since U.vm U.heap.size) (g : T.heap.size ≤ U.heap.size) (C : CHr Z EL vm h U.vm U.heap) (e1 : U.heap = h') : oB Z EL s h0 U.vm h' := by
  subst e1
  obtain ⟨⟨k0, hS, hk0⟩, D⟩ := B
  exact ⟨⟨_, foldS (T := T) hS (by rw [hT]; exact hk0) h2 g, Nat.le_refl _⟩, D.trans C⟩
theorem oWide {U : State} {own : String} (hZ : Z.Warmed39 (s.setVm vm).vm) (hown : (s.setVm vm).vm.findClass own = some m.cls) (h2 : (s.setVm vm).Since U.vm U.heap.size) : Z.Warmed39 (s.setVm U.vm).vm ∧ (s.setVm U.vm).vm.findClass own = some m.cls :=
  ⟨State.Warmed39.trans (t := s.setVm vm) hZ h2.1, by show U.vm.findClass own = _; rw [h2.1.alike.findClass]; exact hown⟩
/-- ldc of a String constant, opaque -/
theorem oLdcO {own text : String} {index : Nat} (X : Stand p l e R (s.setVm vm) m args below meth c T locs cells slots) (hx : p.tables.exec = Jvm.exec) (hZ : Z.Warmed39 (s.setVm vm).vm) (hown : (s.setVm vm).vm.findClass own = some m.cls) (w : (Jvm.Cond.stringLink own index text).before a0 Z = true) (wS : ∀ a ∈ Bundle.stringAtoms, a.before a0 Z = true) (eT : T.heap = h) (hEL : EW Z a0 EL) (B : oB Z EL s h0 vm h)
    {g : JFrame} (hg : g.method = m) (hd : decode c.code g.pc = .ok (.ldc index, 2)) {n : Nat} (hn : 4 * text.toList.length ≤ n) (hbig : n ≤ 536870912) (hc : cells + 2 ≤ R.cells) (hl' : slots + (n + 4) ≤ R.slots) :
    ∃ (a : Addr) (T' : State) (h' : Heap), Stand p l e R (s.setVm T'.vm) m args below meth c T' locs (cells + 2) (slots + (n + 4)) ∧ T'.heap = h' ∧ Ext h h' ∧ Z.Warmed39 (s.setVm T'.vm).vm ∧ (s.setVm T'.vm).vm.findClass own = some m.cls ∧ oB Z EL s h0 T'.vm h' ∧ CHr Z EL vm h T'.vm h' ∧
      ∀ target, Steps p.tables e below (T'.setTop { g with pc := g.pc + 2, stack := .ref a :: g.stack }) target → Steps p.tables e below (T.setTop g) target := by
  obtain ⟨⟨k0, hS, hk0⟩, C⟩ := B
  obtain ⟨a, T', h', k1, X', e1, E, hS', hk1, hZ', hown', C', -, st⟩ := ldcOH X hx hZ hown w wS eT hS hk0 hEL C.1 hg hd hn hbig hc hl'
  exact ⟨a, T', h', X', e1, E, hZ', hown', ⟨⟨k1, hS', hk1⟩, C.trans C'⟩, C', st⟩
/-- ldc of a String constant of EL, read -/
theorem oLdcR {own text : String} {index : Nat} (X : Stand p l e R (s.setVm vm) m args below meth c T locs cells slots) (hx : p.tables.exec = Jvm.exec) (hZ : Z.Warmed39 (s.setVm vm).vm) (hown : (s.setVm vm).vm.findClass own = some m.cls) (w : (Jvm.Cond.stringLink own index text).before a0 Z = true) (wS : ∀ a ∈ Bundle.stringAtoms, a.before a0 Z = true) (eT : T.heap = h) (hEL : EW Z a0 EL) (hmem : (own, index) ∈ EL) (B : oB Z EL s h0 vm h)
    {vs : List Value} {z : Int32} (ht : (∀ c ∈ text.toList, c.toNat < 256) ∧ text.toList.map (fun c => Value.int (Jvm.Lit.byteI c.toNat.toUInt16)) = vs) (hz : ¬ z < 0) (hl : z.toNatClampNeg = vs.length)
    {g : JFrame} (hg : g.method = m) (hd : decode c.code g.pc = .ok (.ldc index, 2)) {n : Nat} (hn : 4 * text.toList.length ≤ n) (hbig : n ≤ 536870912) (hc : cells + 2 ≤ R.cells) (hl' : slots + (n + 4) ≤ R.slots) :
    ∃ (a : Addr) (T' : State) (h' : Heap) (b : Addr) (k : ClassId), Stand p l e R (s.setVm T'.vm) m args below meth c T' locs (cells + 2) (slots + (n + 4)) ∧ T'.heap = h' ∧ Ext h h' ∧ Z.Warmed39 (s.setVm T'.vm).vm ∧ (s.setVm T'.vm).vm.findClass own = some m.cls ∧ oB Z EL s h0 T'.vm h' ∧ CHr Z EL vm h T'.vm h' ∧
      Exa Z h' a "java/lang/String" ∧ Fld Z h' a "java/lang/String" "coder" "B" (.int 0) ∧ Fld Z h' a "java/lang/String" "value" "[B" (.ref b) ∧ Arv Z h' b k .byte z vs (.int 0) ∧ (∀ x, Safe Z EL T'.vm h' x → x ≠ a ∧ x ≠ b) ∧
      ∀ target, Steps p.tables e below (T'.setTop { g with pc := g.pc + 2, stack := .ref a :: g.stack }) target → Steps p.tables e below (T.setTop g) target := by
  obtain ⟨⟨k0, hS, hk0⟩, C⟩ := B
  obtain ⟨a, T', h', k1, b, k, X', e1, E, hS', hk1, hZ', hown', f1, f2, f3, f4, -, -, C', -, hne, st⟩ := ldcCH X hx hZ hown w wS eT hS hk0 hEL hmem C.1 ht hz hl hg hd hn hbig hc hl'
  exact ⟨a, T', h', b, k, X', e1, E, hZ', hown', ⟨⟨k1, hS', hk1⟩, C.trans C'⟩, C', f1, f2, f3, f4, hne, st⟩
end OwnH
/-- the sheet's words -/
abbrev oHW (a0 : Array Value) (Z : State) : Prop := ∀ d ∈ tables_1, d.before a0 Z = true
/-- a byte out of a char -/
abbrev ib (x : Int32) : Value := .int x.toInt8.toInt32
abbrev iu0 (x : Int32) : Value := .int (x >>> ((0 : Int32) &&& 31)).toInt8.toInt32
abbrev iu8 (x : Int32) : Value := .int (x >>> ((8 : Int32) &&& 31)).toInt8.toInt32
/-- a call's place: whoever stands there and has the callee's contract comes out behind it -/
def oCall (Z : State) (own : String) (i : Instr) (y : MethodName) (bytes : ByteArray) (maxL : Nat) (ret : Option FieldType) (P : Heap → List Value → Prop) : Prop :=
  ∀ (p : Program) (l : Launch) (e : Env) (R : Room) (s : State) (m : MethodId) (args : Array Value) (below : List Frame) (meth : Method) (c : Code) (T : State) (locs : List Loc) (cells slots : Nat) (h : Heap) (rm : Room) (Q : Option Value → Heap → List Loc → Prop) (pc W : Nat) (Ls : Array Slot) (S rest A : List Value),
    Stand p l e R s m args below meth c T locs cells slots → p.tables.exec = Jvm.exec → Z.Warmed39 s.vm → s.vm.findClass own = some m.cls → T.heap = h → P h A → oCon l Z y bytes maxL ret [] rm A.toArray h Q →
    (rm.frames + 1 ≤ R.frames ∧ W + (maxL + 11) + rm.locals ≤ R.locals ∧ cells + rm.cells ≤ R.cells ∧ slots + rm.slots ≤ R.slots) → Ls.size = c.maxLocals → S = A.reverse ++ rest → (rest.map fun v => v.category).sum = W → decode c.code pc = .ok (i, 3) →
    ∃ (v : Option Value) (T' : State) (L : List Loc), Stand p l e R s m args below meth c T' (locs ++ L) (cells + rm.cells) (slots + rm.slots) ∧ Q v T'.heap L ∧ ∀ t, Steps p.tables e below (T'.setTop (mkF m (pc + 3) Ls (v.toList ++ rest))) t → Steps p.tables e below (T.setTop (mkF m pc Ls S)) t
section OwnK
variable {Z : State} {a0 : Array Value} {own C : String} {index : Nat} {y z : MethodName} {bytes : ByteArray} {maxL : Nat} {ret : Option FieldType} {ps : List FieldType} {r : Option FieldType}
abbrev oRv (Z : State) (n : Nat) (C : String) (h : Heap) (A : List Value) : Prop := A.length = n + 1 ∧ ∃ o B, A = .ref o :: B ∧ Exa Z h o C
abbrev oRi (n : Nat) (_ : Heap) (A : List Value) : Prop := A.length = n + 1 ∧ ∃ (o : Addr) (B : List Value), A = .ref o :: B
abbrev oRs (n : Nat) (_ : Heap) (A : List Value) : Prop := A.length = n
theorem oLenOf {d : String} (hd : parseMethodDescriptor d = some ⟨ps, r⟩) {L : List Value} (hl : L.length = ps.length) : ∀ sig, parseMethodDescriptor d = some sig → L.length = sig.parameters.length := lenOf hd hl
theorem oCall.stat (w1 : (Jvm.Cond.methodLink own index y).before a0 Z = true) (w2 : (Jvm.Cond.static y).before a0 Z = true) (w3 : (Jvm.Cond.initialized y.cls).before a0 Z = true) (w4 : (Jvm.Cond.code y bytes maxL ret).before a0 Z = true) (hy : y.cls ≠ "java/lang/invoke/MethodHandle" ∧ y.cls ≠ "java/lang/invoke/VarHandle") (hd : parseMethodDescriptor y.desc = some ⟨ps, r⟩) :
    oCall Z own (.invokestatic index) y bytes maxL ret (oRs ps.length) := by
  intro p l e R s m args below meth c T locs cells slots h rm Q pc W Ls S rest A X hx hZ hown e0 hP con hN hsz hS hW hdg
  obtain ⟨v, _, ⟨T', L', k', n'⟩, -, X', ⟨L, hQ, l1, y1, z1⟩, st⟩ := Jvm.LawKit.callS X hx (y := y) hown (mvT hZ w1) (mvT hZ w2) (mvT hZ w3) (mvT hZ w4) hy (backOf (W := W) con hZ w4 w3 hN.1 hN.2.1) (g := mkF m pc Ls S) rfl hsz (argsL := A) (rest := rest) (lenOf hd hP) hS (by show 2 * 0 + _ ≤ W; rw [hW, Nat.mul_zero, Nat.zero_add]; exact Nat.le_refl _) hdg (fun _ _ => ⟨rfl, e0, hN.2.2.1, hN.2.2.2⟩)
  dsimp only [Pt.U, Pt.locs, Pt.cells, Pt.slots] at X' l1 y1 z1 st hQ
  subst l1 y1 z1
  exact ⟨v, T', L, X', hQ, st⟩
theorem oCall.init (h1 : y.name = "<init>") (w1 : (Jvm.Cond.methodLink own index y).before a0 Z = true) (w2 : (Jvm.Cond.instanceMethod y).before a0 Z = true) (w3 : (Jvm.Cond.initialized y.cls).before a0 Z = true) (w4 : (Jvm.Cond.code y bytes maxL none).before a0 Z = true) (hy : y.cls ≠ "java/lang/invoke/MethodHandle" ∧ y.cls ≠ "java/lang/invoke/VarHandle") (hd : parseMethodDescriptor y.desc = some ⟨ps, r⟩) :
    oCall Z own (.invokespecial index) y bytes maxL none (oRi ps.length) := by
  intro p l e R s m args below meth c T locs cells slots h rm Q pc W Ls S rest A X hx hZ hown e0 hP con hN hsz hS hW hdg
  obtain ⟨hl, o, B, rfl⟩ := hP
  obtain ⟨v, _, ⟨T', L', k', n'⟩, -, X', ⟨L, hQ, l1, y1, z1⟩, st⟩ := X.specialBack hx (y := y) h1 hown (mvT hZ w1) (mvT hZ w2) (mvT hZ w4) hy (backOf (W := W) con hZ w4 w3 hN.1 hN.2.1) (g := mkF m pc Ls S) rfl hsz (Steps.refl _) (a := o) (argsL := B) (rest := rest) (lenOf hd (Nat.succ.inj hl)) (by rw [show (mkF m pc Ls S).stack = S from rfl, hS, List.reverse_cons, List.append_assoc]; rfl) (by show 2 * 0 + _ ≤ W; rw [hW, Nat.mul_zero, Nat.zero_add]; exact Nat.le_refl _) hdg (fun _ _ => ⟨rfl, e0, hN.2.2.1, hN.2.2.2⟩)
  dsimp only [Pt.U, Pt.locs, Pt.cells, Pt.slots] at X' l1 y1 z1 st hQ
  subst l1 y1 z1
  exact ⟨v, T', L, X', hQ, fun t k => st.trans k⟩
theorem oCall.initN {host : String} (h1 : y.name = "<init>") (w1 : (Jvm.Cond.methodLinkNest own index y host).before a0 Z = true) (w2 : (Jvm.Cond.instanceMethod y).before a0 Z = true) (w3 : (Jvm.Cond.initialized y.cls).before a0 Z = true) (w4 : (Jvm.Cond.code y bytes maxL none).before a0 Z = true) (hy : y.cls ≠ "java/lang/invoke/MethodHandle" ∧ y.cls ≠ "java/lang/invoke/VarHandle") (hd : parseMethodDescriptor y.desc = some ⟨ps, r⟩) :
    oCall Z own (.invokespecial index) y bytes maxL none (oRi ps.length) := by
  intro p l e R s m args below meth c T locs cells slots h rm Q pc W Ls S rest A X hx hZ hown e0 hP con hN hsz hS hW hdg
  obtain ⟨hl, o, B, rfl⟩ := hP
  obtain ⟨v, _, ⟨T', L', k', n'⟩, -, X', ⟨L, hQ, l1, y1, z1⟩, st⟩ := X.specialBackNest hx (y := y) h1 hown (oMvM hZ w1) (mvT hZ w2) (mvT hZ w4) hy (backOf (W := W) con hZ w4 w3 hN.1 hN.2.1) (g := mkF m pc Ls S) rfl hsz (Steps.refl _) (a := o) (argsL := B) (rest := rest) (lenOf hd (Nat.succ.inj hl)) (by rw [show (mkF m pc Ls S).stack = S from rfl, hS, List.reverse_cons, List.append_assoc]; rfl) (by show 2 * 0 + _ ≤ W; rw [hW, Nat.mul_zero, Nat.zero_add]; exact Nat.le_refl _) hdg (fun _ _ => ⟨rfl, e0, hN.2.2.1, hN.2.2.2⟩)
  dsimp only [Pt.U, Pt.locs, Pt.cells, Pt.slots] at X' l1 y1 z1 st hQ
  subst l1 y1 z1
  exact ⟨v, T', L, X', hQ, fun t k => st.trans k⟩
theorem oCall.virt (w1 : (Jvm.Cond.methodLink own index y).before a0 Z = true) (w2 : (Jvm.Cond.declares y).before a0 Z = true) (nf : ∀ s, Z.Warmed39 s.vm → NotFace s y) (w5 : (Jvm.Cond.selects C y z).before a0 Z = true) (w6 : (Jvm.Cond.instanceMethod z).before a0 Z = true) (w3 : (Jvm.Cond.initialized z.cls).before a0 Z = true) (w4 : (Jvm.Cond.code z bytes maxL ret).before a0 Z = true) (hy : y.cls ≠ "java/lang/invoke/MethodHandle" ∧ y.cls ≠ "java/lang/invoke/VarHandle") (hd : parseMethodDescriptor y.desc = some ⟨ps, r⟩) :
    oCall Z own (.invokevirtual index) z bytes maxL ret (oRv Z ps.length C) := by
  intro p l e R s m args below meth c T locs cells slots h rm Q pc W Ls S rest A X hx hZ hown e0 hP con hN hsz hS hW hdg
  obtain ⟨hl, o, B, rfl, E⟩ := hP
  obtain ⟨cq, kq, qa, qb, qc⟩ := isOf hZ e0 E
  obtain ⟨v, _, ⟨T', L', k', n'⟩, -, X', ⟨L, hQ, l1, y1, z1⟩, st⟩ := X.virtualBack hx (y := y) (z := z) hown (mvT hZ w1) (mvT hZ w2) (nf s hZ) (mvT hZ w5) (mvT hZ w6) hy (backOf (W := W) con hZ w4 w3 hN.1 hN.2.1) qa qc (g := mkF m pc Ls S) rfl hsz (Steps.refl _) (argsL := B) (rest := rest) (lenOf hd (Nat.succ.inj hl)) (by rw [show (mkF m pc Ls S).stack = S from rfl, hS, List.reverse_cons, List.append_assoc]; rfl) (by show 2 * 0 + _ ≤ W; rw [hW, Nat.mul_zero, Nat.zero_add]; exact Nat.le_refl _) hdg (fun _ _ => ⟨rfl, e0, hN.2.2.1, hN.2.2.2⟩)
  dsimp only [Pt.U, Pt.locs, Pt.cells, Pt.slots] at X' l1 y1 z1 st hQ
  subst l1 y1 z1
  exact ⟨v, T', L, X', hQ, fun t k => st.trans k⟩
theorem oCall.priv (w1 : (Jvm.Cond.methodLink own index y).before a0 Z = true) (w2 : (Jvm.Cond.instanceMethod y).before a0 Z = true) (w5 : (Jvm.Cond.selects y.cls y y).before a0 Z = true) (w6 : (Jvm.Cond.privateMethod y).before a0 Z = true) (w3 : (Jvm.Cond.initialized y.cls).before a0 Z = true) (w4 : (Jvm.Cond.code y bytes maxL ret).before a0 Z = true) (hy : y.cls ≠ "java/lang/invoke/MethodHandle" ∧ y.cls ≠ "java/lang/invoke/VarHandle") (hd : parseMethodDescriptor y.desc = some ⟨ps, r⟩) (C : String) :
    oCall Z own (.invokevirtual index) y bytes maxL ret (oRv Z ps.length C) := by
  intro p l e R s m args below meth c T locs cells slots h rm Q pc W Ls S rest A X hx hZ hown e0 hP con hN hsz hS hW hdg
  obtain ⟨hl, o, B, rfl, E⟩ := hP
  obtain ⟨cq, qa, qb⟩ := E.cell
  obtain ⟨v, _, ⟨T', L', k', n'⟩, -, X', ⟨L, hQ, l1, y1, z1⟩, st⟩ := X.privateBack hx (y := y) hown (mvT hZ w1) (mvT hZ w2) (mvT hZ w5) (Cond.privateMethod_at (mvP hZ w6 (args := #[]))) (mvT hZ w4) hy (backOf (W := W) con hZ w4 w3 hN.1 hN.2.1) (g := mkF m pc Ls S) rfl hsz (Steps.refl _) (a := o) (by rw [e0]; exact qa) qb (argsL := B) (rest := rest) (lenOf hd (Nat.succ.inj hl)) (by rw [show (mkF m pc Ls S).stack = S from rfl, hS, List.reverse_cons, List.append_assoc]; rfl) (by show 2 * 0 + _ ≤ W; rw [hW, Nat.mul_zero, Nat.zero_add]; exact Nat.le_refl _) hdg (fun _ _ => ⟨rfl, e0, hN.2.2.1, hN.2.2.2⟩)
  dsimp only [Pt.U, Pt.locs, Pt.cells, Pt.slots] at X' l1 y1 z1 st hQ
  subst l1 y1 z1
  exact ⟨v, T', L, X', hQ, fun t k => st.trans k⟩
variable {p : Program} {l : Launch} {e : Env} {R : Room} {s : State} {m : MethodId} {args : Array Value} {below : List Frame} {meth : Method} {c : Code} {T : State} {locs : List Loc} {cells slots : Nat} {h h0 : Heap} {rm : Room} {Q : Option Value → Heap → List Loc → Prop} {pc W ml : Nat} {Ls : Array Slot} {S rest A : List Value} {i : Instr} {P : Heap → List Value → Prop} {ws : List Addr} {w : Option Value} {bb : ByteArray}
/-- a call that leaves the heap as it is -/
theorem oCall.pure (H : oCall Z own i y bytes maxL ret P) (X : Stand p l e R s m args below meth c T locs cells slots) (hx : p.tables.exec = Jvm.exec) (hZ : Z.Warmed39 s.vm) (hown : s.vm.findClass own = some m.cls) (e0 : T.heap = h) (K : oKp h0 h ws locs) (hP : P h A) (con : oCon l Z y bytes maxL ret [] rm A.toArray h Q) (hQ : ∀ v h' L, Q v h' L → v = w ∧ h' = h ∧ oKp h h' [] L)
    (hN : rm.frames + 1 ≤ R.frames ∧ W + (maxL + 11) + rm.locals ≤ R.locals ∧ cells + rm.cells ≤ R.cells ∧ slots + rm.slots ≤ R.slots) (hml : c.maxLocals = ml) (hsz : Ls.size = ml) (hS : S = A.reverse ++ rest) (hW : (rest.map fun v => v.category).sum = W) (hby : c.code = bb) (hdg : decode bb pc = .ok (i, 3)) :
    ∃ (T' : State) (L : List Loc), Stand p l e R s m args below meth c T' (locs ++ L) (cells + rm.cells) (slots + rm.slots) ∧ T'.heap = h ∧ oKp h0 h ws (locs ++ L) ∧ ∀ t, Steps p.tables e below (T'.setTop (mkF m (pc + 3) Ls (w.toList ++ rest))) t → Steps p.tables e below (T.setTop (mkF m pc Ls S)) t := by
  obtain ⟨v, T', L, X', q, st⟩ := H _ _ _ _ _ _ _ _ _ _ _ _ _ _ _ _ _ _ _ _ _ _ _ X hx hZ hown e0 hP con hN (hsz.trans hml.symm) hS hW (hb hby hdg)
  obtain ⟨rfl, e1, K1⟩ := hQ _ _ _ q
  rw [e1] at K1
  exact ⟨T', L, X', e1, K.call K1 all0, st⟩
/-- a call that may change it -/
theorem oCall.run (H : oCall Z own i y bytes maxL ret P) (X : Stand p l e R s m args below meth c T locs cells slots) (hx : p.tables.exec = Jvm.exec) (hZ : Z.Warmed39 s.vm) (hown : s.vm.findClass own = some m.cls) (e0 : T.heap = h) (hP : P h A) (con : oCon l Z y bytes maxL ret [] rm A.toArray h Q)
    (hN : rm.frames + 1 ≤ R.frames ∧ W + (maxL + 11) + rm.locals ≤ R.locals ∧ cells + rm.cells ≤ R.cells ∧ slots + rm.slots ≤ R.slots) (hml : c.maxLocals = ml) (hsz : Ls.size = ml) (hS : S = A.reverse ++ rest) (hW : (rest.map fun v => v.category).sum = W) (hby : c.code = bb) (hdg : decode bb pc = .ok (i, 3)) :
    ∃ (v : Option Value) (T' : State) (h' : Heap) (L : List Loc), Stand p l e R s m args below meth c T' (locs ++ L) (cells + rm.cells) (slots + rm.slots) ∧ T'.heap = h' ∧ Q v h' L ∧ ∀ t, Steps p.tables e below (T'.setTop (mkF m (pc + 3) Ls (v.toList ++ rest))) t → Steps p.tables e below (T.setTop (mkF m pc Ls S)) t := by
  obtain ⟨v, T', L, X', q, st⟩ := H _ _ _ _ _ _ _ _ _ _ _ _ _ _ _ _ _ _ _ _ _ _ _ X hx hZ hown e0 hP con hN (hsz.trans hml.symm) hS hW (hb hby hdg)
  exact ⟨v, T', _, L, X', rfl, q, st⟩
end OwnK
section OwnZ
variable {p : Program} {l : Launch} {e : Env} {R : Room} {s : State} {m : MethodId} {args : Array Value} {below : List Frame} {meth : Method} {c : Code} {T t : State} {locs : List Loc} {cells slots : Nat} {b : ByteArray} {g : JFrame} {x y : Int32} {v : Value} {rest : List Value} {k : Nat} {k4 : Fin 4} {i o : Int} {l' : Array Slot} {pc' : Nat} {cd : ClassFile.Cond}
theorem zA (X : Stand p l e R s m args below meth c T locs cells slots) (hx : p.tables.exec = Jvm.exec) (hby : c.code = b) (hd : decode b g.pc = .ok (.aload_n k4, 1)) (hg : g.method = m) (h0 : g.locals[k4.val]? = some (.val v)) (h1 : v.isRef = true) (hr : Steps p.tables e below (T.setTop { g with pc := g.pc + 1, stack := v :: g.stack }) t) : Steps p.tables e below (T.setTop g) t := XS.aloadN X.here hx hg (hb hby hd) h0 h1 hr
theorem zI (X : Stand p l e R s m args below meth c T locs cells slots) (hx : p.tables.exec = Jvm.exec) (hby : c.code = b) (hd : decode b g.pc = .ok (.iload_n k4, 1)) (hg : g.method = m) (h0 : g.locals[k4.val]? = some (.val (.int x))) (hr : Steps p.tables e below (T.setTop { g with pc := g.pc + 1, stack := .int x :: g.stack }) t) : Steps p.tables e below (T.setTop g) t := XS.iloadN X.here hx hg (hb hby hd) h0 hr
theorem zB (X : Stand p l e R s m args below meth c T locs cells slots) (hx : p.tables.exec = Jvm.exec) (hby : c.code = b) (hd : decode b g.pc = .ok (.aload k, 2)) (hg : g.method = m) (h0 : g.locals[k]? = some (.val v)) (h1 : v.isRef = true) (hr : Steps p.tables e below (T.setTop { g with pc := g.pc + 2, stack := v :: g.stack }) t) : Steps p.tables e below (T.setTop g) t := XS.aload X.here hx hg (hb hby hd) h0 h1 hr
theorem zJ (X : Stand p l e R s m args below meth c T locs cells slots) (hx : p.tables.exec = Jvm.exec) (hby : c.code = b) (hd : decode b g.pc = .ok (.iload k, 2)) (hg : g.method = m) (h0 : g.locals[k]? = some (.val (.int x))) (hr : Steps p.tables e below (T.setTop { g with pc := g.pc + 2, stack := .int x :: g.stack }) t) : Steps p.tables e below (T.setTop g) t := XS.iload X.here hx hg (hb hby hd) h0 hr
theorem zK (X : Stand p l e R s m args below meth c T locs cells slots) (hx : p.tables.exec = Jvm.exec) (hby : c.code = b) (hd : decode b g.pc = .ok (.iconst i, 1)) (hg : g.method = m)  (hr : Steps p.tables e below (T.setTop { g with pc := g.pc + 1, stack := .int (Int32.ofInt i) :: g.stack }) t) : Steps p.tables e below (T.setTop g) t := XS.iconst X.here hx hg (hb hby hd) hr
theorem zL (X : Stand p l e R s m args below meth c T locs cells slots) (hx : p.tables.exec = Jvm.exec) (hby : c.code = b) (hd : decode b g.pc = .ok (.bipush i, 2)) (hg : g.method = m)  (hr : Steps p.tables e below (T.setTop { g with pc := g.pc + 2, stack := .int (Int8.ofInt i).toInt32 :: g.stack }) t) : Steps p.tables e below (T.setTop g) t := XS.bipush X.here hx hg (hb hby hd) hr
theorem zM (X : Stand p l e R s m args below meth c T locs cells slots) (hx : p.tables.exec = Jvm.exec) (hby : c.code = b) (hd : decode b g.pc = .ok (.sipush i, 3)) (hg : g.method = m)  (hr : Steps p.tables e below (T.setTop { g with pc := g.pc + 3, stack := .int (Int16.ofInt i).toInt32 :: g.stack }) t) : Steps p.tables e below (T.setTop g) t := XS.sipush X.here hx hg (hb hby hd) hr
theorem zS (X : Stand p l e R s m args below meth c T locs cells slots) (hx : p.tables.exec = Jvm.exec) (hby : c.code = b) (hd : decode b g.pc = .ok (.istore k, 2)) (hg : g.method = m) (h0 : g.stack = .int x :: rest) (h1 : storeLocals g.locals k (.int x) = some l') (hr : Steps p.tables e below (T.setTop { g with pc := g.pc + 2, locals := l', stack := rest }) t) : Steps p.tables e below (T.setTop g) t := XS.istore X.here hx hg (hb hby hd) h0 h1 hr
theorem zSn (X : Stand p l e R s m args below meth c T locs cells slots) (hx : p.tables.exec = Jvm.exec) (hby : c.code = b) (hd : decode b g.pc = .ok (.istore_n k4, 1)) (hg : g.method = m) (h0 : g.stack = .int x :: rest) (h1 : storeLocals g.locals k4.val (.int x) = some l') (hr : Steps p.tables e below (T.setTop { g with pc := g.pc + 1, locals := l', stack := rest }) t) : Steps p.tables e below (T.setTop g) t := XS.istoreN X.here hx hg (hb hby hd) h0 h1 hr
theorem zT (X : Stand p l e R s m args below meth c T locs cells slots) (hx : p.tables.exec = Jvm.exec) (hby : c.code = b) (hd : decode b g.pc = .ok (.astore k, 2)) (hg : g.method = m) (h0 : g.stack = v :: rest) (h1 : v.isRef = true) (h2 : storeLocals g.locals k v = some l') (hr : Steps p.tables e below (T.setTop { g with pc := g.pc + 2, locals := l', stack := rest }) t) : Steps p.tables e below (T.setTop g) t := XS.astore X.here hx hg (hb hby hd) h0 h1 h2 hr
theorem zTn (X : Stand p l e R s m args below meth c T locs cells slots) (hx : p.tables.exec = Jvm.exec) (hby : c.code = b) (hd : decode b g.pc = .ok (.astore_n k4, 1)) (hg : g.method = m) (h0 : g.stack = v :: rest) (h1 : v.isRef = true) (h2 : storeLocals g.locals k4.val v = some l') (hr : Steps p.tables e below (T.setTop { g with pc := g.pc + 1, locals := l', stack := rest }) t) : Steps p.tables e below (T.setTop g) t := XS.astoreN X.here hx hg (hb hby hd) h0 h1 h2 hr
theorem zG (X : Stand p l e R s m args below meth c T locs cells slots) (hx : p.tables.exec = Jvm.exec) (hby : c.code = b) (hd : decode b g.pc = .ok (.goto o, 3)) (hg : g.method = m)  (hj : (g.pc : Int) + o = (pc' : Int)) (hr : Steps p.tables e below (T.setTop { g with pc := pc' }) t) : Steps p.tables e below (T.setTop g) t := XS.goto X.here hx hg rfl (hb hby hd) (by rw [hj]; exact Int.natCast_nonneg _) (by rw [hj]; exact Int.toNat_natCast _) hr
theorem zY (X : Stand p l e R s m args below meth c T locs cells slots) (hx : p.tables.exec = Jvm.exec) (hby : c.code = b) (hd : decode b g.pc = .ok (.if_icmp cd o, 3)) (hg : g.method = m) (h0 : g.stack = .int y :: .int x :: rest) (h1 : if_icmp.holds cd x y = true) (hj : (g.pc : Int) + o = (pc' : Int)) (hr : Steps p.tables e below (T.setTop { g with pc := pc', stack := rest }) t) : Steps p.tables e below (T.setTop g) t := XS.icmpYes X.here hx hg rfl (hb hby hd) h0 h1 (by rw [hj]; exact Int.natCast_nonneg _) (by rw [hj]; exact Int.toNat_natCast _) hr
theorem zN (X : Stand p l e R s m args below meth c T locs cells slots) (hx : p.tables.exec = Jvm.exec) (hby : c.code = b) (hd : decode b g.pc = .ok (.if_icmp cd o, 3)) (hg : g.method = m) (h0 : g.stack = .int y :: .int x :: rest) (h1 : if_icmp.holds cd x y = false) (hr : Steps p.tables e below (T.setTop { g with pc := g.pc + 3, stack := rest }) t) : Steps p.tables e below (T.setTop g) t := XS.icmpNo X.here hx hg (hb hby hd) h0 h1 hr
theorem zF (X : Stand p l e R s m args below meth c T locs cells slots) (hx : p.tables.exec = Jvm.exec) (hby : c.code = b) (hd : decode b g.pc = .ok (.ifCond cd o, 3)) (hg : g.method = m) (h0 : g.stack = .int x :: rest) (h1 : ifCond.holds cd x = true) (hj : (g.pc : Int) + o = (pc' : Int)) (hr : Steps p.tables e below (T.setTop { g with pc := pc', stack := rest }) t) : Steps p.tables e below (T.setTop g) t := XS.ifYes X.here hx hg rfl (hb hby hd) h0 h1 (by rw [hj]; exact Int.natCast_nonneg _) (by rw [hj]; exact Int.toNat_natCast _) hr
theorem zH (X : Stand p l e R s m args below meth c T locs cells slots) (hx : p.tables.exec = Jvm.exec) (hby : c.code = b) (hd : decode b g.pc = .ok (.ifCond cd o, 3)) (hg : g.method = m) (h0 : g.stack = .int x :: rest) (h1 : ifCond.holds cd x = false) (hr : Steps p.tables e below (T.setTop { g with pc := g.pc + 3, stack := rest }) t) : Steps p.tables e below (T.setTop g) t := XS.ifNo X.here hx hg (hb hby hd) h0 h1 hr
theorem zC (X : Stand p l e R s m args below meth c T locs cells slots) (hx : p.tables.exec = Jvm.exec) (hby : c.code = b) (hd : decode b g.pc = .ok (.iinc k i, 3)) (hg : g.method = m) (h0 : g.locals[k]? = some (.val (.int x))) (h1 : storeLocals g.locals k (.int (x + Int32.ofInt i)) = some l') (hr : Steps p.tables e below (T.setTop { g with pc := g.pc + 3, locals := l' }) t) : Steps p.tables e below (T.setTop g) t := XS.iinc X.here hx hg (hb hby hd) h0 h1 hr
theorem zD (X : Stand p l e R s m args below meth c T locs cells slots) (hx : p.tables.exec = Jvm.exec) (hby : c.code = b) (hd : decode b g.pc = .ok (.dup, 1)) (hg : g.method = m) (h0 : g.stack = v :: rest) (h1 : v.category = 1) (hr : Steps p.tables e below (T.setTop { g with pc := g.pc + 1, stack := v :: v :: rest }) t) : Steps p.tables e below (T.setTop g) t := XS.dup X.here hx hg (hb hby hd) h0 h1 hr
end OwnZ
section OwnL
variable {p : Program} {l : Launch} {e : Env} {R : Room} {s : State} {m : MethodId} {args : Array Value} {below : List Frame} {meth : Method} {c : Code} {T t : State} {locs : List Loc} {cells slots : Nat} {b : ByteArray} {g : JFrame} {Z : State} {h : Heap} {a : Addr} {k : ClassId} {n : Int32} {vs : List Value} {dv : Value} {ty : FieldType} {rest : List Value}
theorem oAl (X : Stand p l e R s m args below meth c T locs cells slots) (hx : p.tables.exec = Jvm.exec) (hZ : Z.Warmed39 s.vm) (e0 : T.heap = h) (V : Arv Z h a k ty n vs dv) (hby : c.code = b) (hd : decode b g.pc = .ok (.arraylength, 1)) (hg : g.method = m) (hs : g.stack = .ref a :: rest) (hr : Steps p.tables e below (T.setTop { g with pc := g.pc + 1, stack := .int n :: rest }) t) : Steps p.tables e below (T.setTop g) t := by
  obtain ⟨cl, Ar, q, Sz, Nn, Hs, Ft⟩ := V
  exact X.arraylength hx (by rw [e0]; exact Ar.1) (State.isArrayOf_alike hZ.alike Ar.2.1) hg hs (hb hby hd) _ (by rw [len_of Sz Nn]; exact hr)
theorem oLdB (X : Stand p l e R s m args below meth c T locs cells slots) (hx : p.tables.exec = Jvm.exec) (hZ : Z.Warmed39 s.vm) (e0 : T.heap = h) (V : Arv Z h a k .byte n vs dv) (j : Int32) (v : Value) (hj : ¬ j < 0 ∧ j < n) (hv : vs.getD j.toNatClampNeg dv = v) (hby : c.code = b) (hd : decode b g.pc = .ok (.baload, 1)) (hg : g.method = m) (hs : g.stack = .int j :: .ref a :: rest) (hr : Steps p.tables e below (T.setTop { g with pc := g.pc + 1, stack := v :: rest }) t) : Steps p.tables e below (T.setTop g) t := by
  obtain ⟨cl, Ar, q, Sz, Nn, Hs, Ft⟩ := V
  exact X.baloadBytes hx (by rw [e0]; exact Ar.1) (State.isArrayOf_alike hZ.alike Ar.2.1) Ar.2.2 (inb_of Sz hj) (Hs.at (inb_of Sz hj) hv) hg hs (hb hby hd) _ hr
theorem oLdC (X : Stand p l e R s m args below meth c T locs cells slots) (hx : p.tables.exec = Jvm.exec) (hZ : Z.Warmed39 s.vm) (e0 : T.heap = h) (V : Arv Z h a k .char n vs dv) (j : Int32) (v : Value) (hj : ¬ j < 0 ∧ j < n) (hv : vs.getD j.toNatClampNeg dv = v) (hby : c.code = b) (hd : decode b g.pc = .ok (.caload, 1)) (hg : g.method = m) (hs : g.stack = .int j :: .ref a :: rest) (hr : Steps p.tables e below (T.setTop { g with pc := g.pc + 1, stack := v :: rest }) t) : Steps p.tables e below (T.setTop g) t := by
  obtain ⟨cl, Ar, q, Sz, Nn, Hs, Ft⟩ := V
  exact X.caload hx (by rw [e0]; exact Ar.1) (State.isArrayOf_alike hZ.alike Ar.2.1) Ar.2.2 (inb_of Sz hj) (Hs.at (inb_of Sz hj) hv) hg hs (hb hby hd) _ hr
theorem oLdR (X : Stand p l e R s m args below meth c T locs cells slots) (hx : p.tables.exec = Jvm.exec) (hZ : Z.Warmed39 s.vm) (e0 : T.heap = h) {C : String} (V : Arv Z h a k (.object C) n vs dv) (j : Int32) (v : Value) (hj : ¬ j < 0 ∧ j < n) (hv : vs.getD j.toNatClampNeg dv = v) (hby : c.code = b) (hd : decode b g.pc = .ok (.aaload, 1)) (hg : g.method = m) (hs : g.stack = .int j :: .ref a :: rest) (hr : Steps p.tables e below (T.setTop { g with pc := g.pc + 1, stack := v :: rest }) t) : Steps p.tables e below (T.setTop g) t := by
  obtain ⟨cl, Ar, q, Sz, Nn, Hs, Ft⟩ := V
  exact X.aaload hx (by rw [e0]; exact Ar.1) (State.isArrayOf_alike hZ.alike Ar.2.1) rfl Ar.2.2 (inb_of Sz hj) (Hs.at (inb_of Sz hj) hv) hg hs (hb hby hd) _ hr
end OwnL
abbrev Y0 : String := "java/lang/String"
abbrev Y1 : String := "java/lang/StringUTF16"
abbrev Y2 : String := "jdk/internal/util/Preconditions"
abbrev Y3 : String := "$assertionsDisabled"
abbrev Y4 : String := "SIOOBE_FORMATTER"
abbrev Y5 : String := "Ljava/util/function/BiFunction;"
abbrev Y6 : String := "COMPACT_STRINGS"
abbrev Y7 : String := "com/example/modwright/modwright/install/InstanceFolder"
abbrev Y8 : String := "com/example/modwright/modwright/install/InstanceFolderIsSafeSegmentPinLaw"
abbrev Y9 : String := "java/lang/Character"
def oEL : List (String × Nat) := [(Y0, 7)]
theorem oTx0 : (∀ c ∈ "".toList, c.toNat < 256) ∧ "".toList.map (fun c => Value.int (Jvm.Lit.byteI c.toNat.toUInt16)) = [] := ⟨by decide, by decide +kernel⟩
theorem oELw {a0 : Array Value} {Z : State} (hw : ∀ d ∈ tables_1, d.before a0 Z = true) : EW Z a0 oEL := (EW.cons (oW hw 16 rfl) oTx0.1 EW.nil)
theorem oSAin : ∀ a ∈ Bundle.stringAtoms, a ∈ tables_1 := by decide +kernel
theorem oSA {a0 : Array Value} {Z : State} (hw : ∀ d ∈ tables_1, d.before a0 Z = true) : ∀ a ∈ Bundle.stringAtoms, a.before a0 Z = true := fun a ha => hw a (oSAin a ha)
theorem oB8 (x : Int32) : x.toInt8.toInt32.toInt8.toInt32 = x.toInt8.toInt32 := by rw [Int8.toInt8_toInt32]
theorem oB8inj {x y : Int32} (hx : 0 ≤ x.toInt ∧ x.toInt < 256) (hy : 0 ≤ y.toInt ∧ y.toInt < 256) (h : x.toInt8.toInt32 = y.toInt8.toInt32) : x = y := by
  have a := c_i2b x
  have b := c_i2b y
  rw [h] at a
  apply Int32.toInt_inj.mp
  omega
theorem oCmp {P R : Prop} [Decidable P] [Decidable R] (h : P ↔ R) : oBi P = oBi R := by
  by_cases q : P
  · rw [oBi_t q, oBi_t (h.mp q)]
  · rw [oBi_f q, oBi_f (fun r => q (h.mpr r))]
theorem oM255 (x : Int32) : 0 ≤ (x &&& 255).toInt ∧ (x &&& 255).toInt < 256 := by
  have q := c_mask x 255 8 (by decide) (by decide)
  omega
theorem oChr {x : Int32} (h : 0 ≤ x.toInt ∧ x.toInt < 256) : x.toUInt32.toUInt16.toUInt32.toInt32 = x := by
  have a := c_i2c x
  apply Int32.toInt_inj.mp
  omega
theorem oLe255 {x : Int32} (h : 0 ≤ x.toInt ∧ x.toInt < 256) : ¬ (255 : Int32) < x := fun q => by
  have r : (255 : Int32).toInt < x.toInt := Int32.lt_iff_toInt_lt.mp q
  have s : (255 : Int32).toInt = 255 := by decide
  omega
theorem oBk {x : Int32} (h : 0 ≤ x.toInt ∧ x.toInt < 256) : (x.toInt8.toInt32 &&& 255).toUInt32.toUInt16.toUInt32.toInt32 = x := by
  have a := c_i2b x
  have b := c_mask x.toInt8.toInt32 255 8 (by decide) (by decide)
  rw [oChr (by omega)]
  apply Int32.toInt_inj.mp
  omega
theorem oCat {v : Value} (h : v.isRef = true) : v.category = 1 := by cases v <;> simp_all [Value.isRef, Value.category]
theorem oChrU {x : Int32} (h : 0 ≤ x.toInt ∧ x.toInt < 65536) : x.toUInt32.toUInt16.toUInt32.toInt32 = x := by
  have a := c_i2c x
  apply Int32.toInt_inj.mp
  omega
theorem oM16 (x : Int32) : 0 ≤ (x &&& 65535).toInt ∧ (x &&& 65535).toInt < 65536 := by
  have q := c_mask x 65535 16 (by decide) (by decide)
  omega
theorem oU16 {x : Int32} (h : 0 ≤ x.toInt ∧ x.toInt < 65536) : (((x >>> ((0 : Int32) &&& 31)).toInt8.toInt32 &&& 255) <<< ((0 : Int32) &&& 31) ||| ((x >>> ((8 : Int32) &&& 31)).toInt8.toInt32 &&& 255) <<< ((8 : Int32) &&& 31)).toUInt32.toUInt16.toUInt32.toInt32 = x := by
  have a1 := c_ishr x 0 0 (by decide)
  have a2 := c_ishr x 8 8 (by decide)
  have b1 := c_i2b (x >>> ((0 : Int32) &&& 31))
  have b2 := c_i2b (x >>> ((8 : Int32) &&& 31))
  have m1 := c_mask (x >>> ((0 : Int32) &&& 31)).toInt8.toInt32 255 8 (by decide) (by decide)
  have m2 := c_mask (x >>> ((8 : Int32) &&& 31)).toInt8.toInt32 255 8 (by decide) (by decide)
  generalize (x >>> ((0 : Int32) &&& 31)).toInt8.toInt32 &&& 255 = B0 at *
  generalize (x >>> ((8 : Int32) &&& 31)).toInt8.toInt32 &&& 255 = B1 at *
  have s1 := c_ishl B0 0 0 (by decide)
  have s2 := c_ishl B1 8 8 (by decide)
  have r1 := rng32 (B0 <<< ((0 : Int32) &&& 31))
  have r2 := rng32 (B1 <<< ((8 : Int32) &&& 31))
  have o := c_or' (B0 <<< ((0 : Int32) &&& 31)) (B1 <<< ((8 : Int32) &&& 31)) 8 (by decide) 256 rfl (by omega) (by omega) (by omega)
  have i := c_i2c (B0 <<< ((0 : Int32) &&& 31) ||| B1 <<< ((8 : Int32) &&& 31))
  apply Int32.toInt_inj.mp
  omega
theorem oStI {args : Array Value} {Z : State} {C n d : String} {k : Int32} (h : (Jvm.Cond.eq (.static C n d) (.int k)).value args Z none Z [] = some true) : (Term.static C n d).eval args Z none [] Z = some (.int k) := by
  obtain ⟨x, y, e1, e2, k1, k2⟩ := cmp_v (Or.inl h)
  cases (Option.some.inj e2 : Value.int k = y)
  obtain ⟨z, rfl⟩ := (k2 : ∃ z, x = .int z)
  have q : z = k := by
    have h' := h
    simp only [Cond.value, e1, e2] at h'
    simpa using h'
  subst q
  exact e1

abbrev oIso (c : Int32) : Prop := c < (32 : Int32) ∨ (¬ c < (127 : Int32) ∧ ¬ (159 : Int32) < c)
abbrev oPl (c : Int32) : Prop := ¬ c = (47 : Int32) ∧ ¬ c = (92 : Int32) ∧ ¬ c = (58 : Int32) ∧ ¬ oIso c
theorem oSh5 {c : Int32} (h : 0 ≤ c.toInt ∧ c.toInt < 65536) : ((c.toUInt32 >>> ((5 : Int32) &&& 31).toUInt32).toInt32) = (0 : Int32) ↔ c < (32 : Int32) := by
  have a := c_iushr c 5 5 (by decide) (by decide)
  have z : (0 : Int32).toInt = 0 := by decide
  have t : (32 : Int32).toInt = 32 := by decide
  rw [Int32.lt_iff_toInt_lt, ← Int32.toInt_inj]
  constructor
  · intro q
    omega
  · intro q
    omega
theorem oIl {c : Int32} (h : (159 : Int32) < c) (q : c < (32 : Int32)) : False := by
  have a := Int32.lt_iff_toInt_lt.mp h
  have b := Int32.lt_iff_toInt_lt.mp q
  have z : (159 : Int32).toInt = 159 := by decide
  have t : (32 : Int32).toInt = 32 := by decide
  omega
def Q_rIsoI (Z : State) (xp : Int32) (h0 : Heap) (v : Option Value) (h : Heap) (L : List Loc) : Prop := v = some (.int (oBi (oIso xp))) ∧ h = h0 ∧ oKp h0 h [] L
theorem pn_0 : plainName "java/lang/Character" = true := by first | (simp [plainName, overriddenIn]; done) | decide +kernel
abbrev yy0 : MethodName := ⟨"java/lang/Character", "isISOControl", "(I)Z"⟩
theorem d18_0 : decode jdk_89_method_89_code 0 = .ok (.iload_n 0, 1) := by decide +kernel
theorem d18_1 : decode jdk_89_method_89_code 1 = .ok (.sipush 159, 3) := by decide +kernel
theorem d18_4 : decode jdk_89_method_89_code 4 = .ok (.if_icmp .gt 19, 3) := by decide +kernel
theorem d18_23 : decode jdk_89_method_89_code 23 = .ok (.iconst 0, 1) := by decide +kernel
theorem d18_24 : decode jdk_89_method_89_code 24 = .ok (.ireturn, 1) := by decide +kernel
theorem d18_7 : decode jdk_89_method_89_code 7 = .ok (.iload_n 0, 1) := by decide +kernel
theorem d18_8 : decode jdk_89_method_89_code 8 = .ok (.bipush 127, 2) := by decide +kernel
theorem d18_10 : decode jdk_89_method_89_code 10 = .ok (.if_icmp .ge 9, 3) := by decide +kernel
theorem d18_13 : decode jdk_89_method_89_code 13 = .ok (.iload_n 0, 1) := by decide +kernel
theorem d18_14 : decode jdk_89_method_89_code 14 = .ok (.iconst 5, 1) := by decide +kernel
theorem d18_15 : decode jdk_89_method_89_code 15 = .ok (.iushr, 1) := by decide +kernel
theorem d18_16 : decode jdk_89_method_89_code 16 = .ok (.ifCond .ne 7, 3) := by decide +kernel
theorem d18_19 : decode jdk_89_method_89_code 19 = .ok (.iconst 1, 1) := by decide +kernel
theorem d18_20 : decode jdk_89_method_89_code 20 = .ok (.goto 4, 3) := by decide +kernel
theorem rIsoI (l : Launch) (Z : State) (a0 : Array Value) (hw : oHW a0 Z) (ws : List Jvm.Cond) (xp : Int32) (h0 : Heap) (O0 : Ext Z.heap h0) (hr : 0 ≤ xp.toInt ∧ xp.toInt < 65536) :
    oCon l Z yy0 jdk_89_method_89_code 1 (some .boolean) ws ({ frames := 0, cells := 0, slots := 0, locals := 0 } : Room) #[(.int xp)] h0 (Q_rIsoI Z xp h0) := by
  refine oCon.of (plainFor_of_name pn_0) ?_
  intro p e s m below meth c T X hx hby hml hown hnm hret hlk hZ e0
  have hml : c.maxLocals = 1 := hml
  have K : oKp h0 h0 [] [] := oKp.nil _ _
  refine oWk.cast (g' := (mkF m 0 #[iv xp] [])) (by first | rfl | (simp [entryFrame, mkF, argsToLocals, Value.category]; done)) ?_
  refine oWk.to (mkF m 4 #[iv xp] [(.int 159), (.int xp)]) (fun _ kt => zI X hx hby d18_0 rfl rfl (zM X hx hby d18_1 rfl kt)) ?_
  by_cases hc4 : (159 : Int32) < xp
  · refine oWk.to (mkF m 23 #[iv xp] []) (fun _ kt => zY X hx hby d18_4 rfl rfl (tlt hc4).2.2.1 (pc' := 23) rfl kt) ?_
    refine oWk.to (mkF m 24 #[iv xp] [(.int 0)]) (fun _ kt => zK X hx hby d18_23 rfl kt) ?_
    exact oRetZ X hx hlk hret (hb hby d18_24) (Or.inl rfl) (by rw [e0]; exact ⟨(by rw [oBi_f (fun q => q.elim (fun z => oIl hc4 z) (fun z => z.2 hc4))]), rfl, K⟩) (by decide) (by decide)
  · refine oWk.to (mkF m 7 #[iv xp] []) (fun _ kt => zN X hx hby d18_4 rfl rfl (flt hc4).2.2.1 kt) ?_
    refine oWk.to (mkF m 10 #[iv xp] [(.int 127), (.int xp)]) (fun _ kt => zI X hx hby d18_7 rfl rfl (zL X hx hby d18_8 rfl kt)) ?_
    by_cases hc10 : xp < (127 : Int32)
    · refine oWk.to (mkF m 13 #[iv xp] []) (fun _ kt => zN X hx hby d18_10 rfl rfl (tlt hc10).2.1 kt) ?_
      refine oWk.to (mkF m 16 #[iv xp] [(.int ((xp.toUInt32 >>> ((5 : Int32) &&& 31).toUInt32).toInt32))]) (fun _ kt => zI X hx hby d18_13 rfl rfl (zK X hx hby d18_14 rfl (XS.iushr X.here hx rfl (hb hby d18_15) rfl kt))) ?_
      by_cases hc16 : ((xp.toUInt32 >>> ((5 : Int32) &&& 31).toUInt32).toInt32) = (0 : Int32)
      · refine oWk.to (mkF m 19 #[iv xp] []) (fun _ kt => zH X hx hby d18_16 rfl rfl ((if0 _ _).trans (teq hc16).2) kt) ?_
        refine oWk.to (mkF m 24 #[iv xp] [(.int 1)]) (fun _ kt => zK X hx hby d18_19 rfl (zG X hx hby d18_20 rfl (pc' := 24) rfl kt)) ?_
        exact oRetZ X hx hlk hret (hb hby d18_24) (Or.inr rfl) (by rw [e0]; exact ⟨(by rw [oBi_t (Or.inl ((oSh5 hr).mp hc16))]), rfl, K⟩) (by decide) (by decide)
      · refine oWk.to (mkF m 23 #[iv xp] []) (fun _ kt => zF X hx hby d18_16 rfl rfl ((if0 _ _).trans (feq hc16).2) (pc' := 23) rfl kt) ?_
        refine oWk.to (mkF m 24 #[iv xp] [(.int 0)]) (fun _ kt => zK X hx hby d18_23 rfl kt) ?_
        exact oRetZ X hx hlk hret (hb hby d18_24) (Or.inl rfl) (by rw [e0]; exact ⟨(by rw [oBi_f (fun q => q.elim (fun z => hc16 ((oSh5 hr).mpr z)) (fun z => z.1 hc10))]), rfl, K⟩) (by decide) (by decide)
    · refine oWk.to (mkF m 19 #[iv xp] []) (fun _ kt => zY X hx hby d18_10 rfl rfl (flt hc10).2.1 (pc' := 19) rfl kt) ?_
      refine oWk.to (mkF m 24 #[iv xp] [(.int 1)]) (fun _ kt => zK X hx hby d18_19 rfl (zG X hx hby d18_20 rfl (pc' := 24) rfl kt)) ?_
      exact oRetZ X hx hlk hret (hb hby d18_24) (Or.inr rfl) (by rw [e0]; exact ⟨(by rw [oBi_t (Or.inr ⟨hc10, hc4⟩)]), rfl, K⟩) (by decide) (by decide)
def Q_rIso (Z : State) (xp : Int32) (h0 : Heap) (v : Option Value) (h : Heap) (L : List Loc) : Prop := v = some (.int (oBi (oIso xp))) ∧ h = h0 ∧ oKp h0 h [] L
abbrev yy1 : MethodName := ⟨"java/lang/Character", "isISOControl", "(C)Z"⟩
theorem d17_0 : decode jdk_89_method_88_code 0 = .ok (.iload_n 0, 1) := by decide +kernel
theorem d17_1 : decode jdk_89_method_88_code 1 = .ok (.invokestatic 266, 3) := by decide +kernel
theorem pd_0 : parseMethodDescriptor "(I)Z" = some ⟨[.int], some .boolean⟩ := by decide +kernel
theorem cs0 {a0 : Array Value} {Z : State} (hw : oHW a0 Z) : oCall Z Y9 (.invokestatic 266) yy0 jdk_89_method_89_code 1 (some .boolean) (oRs 1) := oCall.stat (oW hw 84 rfl) (oW hw 85 rfl) (oW hw 82 rfl) (oW hw 86 rfl) (by decide) pd_0
theorem d17_4 : decode jdk_89_method_88_code 4 = .ok (.ireturn, 1) := by decide +kernel
theorem rIso (l : Launch) (Z : State) (a0 : Array Value) (hw : oHW a0 Z) (ws : List Jvm.Cond) (xp : Int32) (h0 : Heap) (O0 : Ext Z.heap h0) (hr : 0 ≤ xp.toInt ∧ xp.toInt < 65536) :
    oCon l Z yy1 jdk_89_method_88_code 1 (some .boolean) ws ({ frames := 1, cells := 0, slots := 0, locals := 12 } : Room) #[(.int xp)] h0 (Q_rIso Z xp h0) := by
  refine oCon.of (plainFor_of_name pn_0) ?_
  intro p e s m below meth c T X hx hby hml hown hnm hret hlk hZ e0
  have hml : c.maxLocals = 1 := hml
  have K : oKp h0 h0 [] [] := oKp.nil _ _
  refine oWk.cast (g' := (mkF m 0 #[iv xp] [])) (by first | rfl | (simp [entryFrame, mkF, argsToLocals, Value.category]; done)) ?_
  refine oWk.st (fun _ kt => zI X hx hby d17_0 rfl rfl kt) ?_
  have Oh := K.old O0 all0
  obtain ⟨T, L2, X, e0, K, st⟩ := (cs0 hw).pure X hx hZ hown e0 K (A := [(.int xp)]) rfl (rIsoI l Z a0 hw [] xp h0 Oh hr) (fun _ _ _ q => q) (W := 0) (by decide) hml (Ls := #[iv xp]) rfl (rest := []) rfl rfl hby d17_1
  refine oWk.to (mkF m 4 #[iv xp] [(.int (oBi (oIso xp)))]) (fun _ kt => st _ kt) ?_
  exact oRetZ X hx hlk hret (hb hby d17_4) (oBi_01 _) (by rw [e0]; exact ⟨rfl, rfl, K⟩) (by decide) (by decide)
def Q_rPl (Z : State) (xp : Int32) (h0 : Heap) (v : Option Value) (h : Heap) (L : List Loc) : Prop := v = some (.int (oBi (oPl xp))) ∧ h = h0 ∧ oKp h0 h [] L
theorem pn_1 : plainName "com/example/modwright/modwright/install/InstanceFolderIsSafeSegmentPinLaw" = true := by first | (simp [plainName, overriddenIn]; done) | decide +kernel
abbrev yy2 : MethodName := ⟨"com/example/modwright/modwright/install/InstanceFolderIsSafeSegmentPinLaw", "plain", "(C)Z"⟩
theorem d6_0 : decode method_3_code 0 = .ok (.iload_n 0, 1) := by decide +kernel
theorem d6_1 : decode method_3_code 1 = .ok (.bipush 47, 2) := by decide +kernel
theorem d6_3 : decode method_3_code 3 = .ok (.if_icmp .eq 15, 3) := by decide +kernel
theorem d6_18 : decode method_3_code 18 = .ok (.iconst 0, 1) := by decide +kernel
theorem d6_19 : decode method_3_code 19 = .ok (.ireturn, 1) := by decide +kernel
theorem d6_6 : decode method_3_code 6 = .ok (.iload_n 0, 1) := by decide +kernel
theorem d6_7 : decode method_3_code 7 = .ok (.bipush 92, 2) := by decide +kernel
theorem d6_9 : decode method_3_code 9 = .ok (.if_icmp .eq 9, 3) := by decide +kernel
theorem d6_12 : decode method_3_code 12 = .ok (.iload_n 0, 1) := by decide +kernel
theorem d6_13 : decode method_3_code 13 = .ok (.bipush 58, 2) := by decide +kernel
theorem d6_15 : decode method_3_code 15 = .ok (.if_icmp .ne 5, 3) := by decide +kernel
theorem d6_20 : decode method_3_code 20 = .ok (.iload_n 0, 1) := by decide +kernel
theorem d6_21 : decode method_3_code 21 = .ok (.bipush 32, 2) := by decide +kernel
theorem d6_23 : decode method_3_code 23 = .ok (.if_icmp .ge 5, 3) := by decide +kernel
theorem d6_26 : decode method_3_code 26 = .ok (.iconst 0, 1) := by decide +kernel
theorem d6_27 : decode method_3_code 27 = .ok (.ireturn, 1) := by decide +kernel
theorem d6_28 : decode method_3_code 28 = .ok (.iload_n 0, 1) := by decide +kernel
theorem d6_29 : decode method_3_code 29 = .ok (.bipush 127, 2) := by decide +kernel
theorem d6_31 : decode method_3_code 31 = .ok (.if_icmp .lt 12, 3) := by decide +kernel
theorem d6_43 : decode method_3_code 43 = .ok (.iconst 1, 1) := by decide +kernel
theorem d6_44 : decode method_3_code 44 = .ok (.ireturn, 1) := by decide +kernel
theorem d6_34 : decode method_3_code 34 = .ok (.iload_n 0, 1) := by decide +kernel
theorem d6_35 : decode method_3_code 35 = .ok (.sipush 159, 3) := by decide +kernel
theorem d6_38 : decode method_3_code 38 = .ok (.if_icmp .gt 5, 3) := by decide +kernel
theorem d6_41 : decode method_3_code 41 = .ok (.iconst 0, 1) := by decide +kernel
theorem d6_42 : decode method_3_code 42 = .ok (.ireturn, 1) := by decide +kernel
theorem rPl (l : Launch) (Z : State) (a0 : Array Value) (hw : oHW a0 Z) (ws : List Jvm.Cond) (xp : Int32) (h0 : Heap) (O0 : Ext Z.heap h0)  :
    oCon l Z yy2 method_3_code 1 (some .boolean) ws ({ frames := 0, cells := 0, slots := 0, locals := 0 } : Room) #[(.int xp)] h0 (Q_rPl Z xp h0) := by
  refine oCon.of (plainFor_of_name pn_1) ?_
  intro p e s m below meth c T X hx hby hml hown hnm hret hlk hZ e0
  have hml : c.maxLocals = 1 := hml
  have K : oKp h0 h0 [] [] := oKp.nil _ _
  refine oWk.cast (g' := (mkF m 0 #[iv xp] [])) (by first | rfl | (simp [entryFrame, mkF, argsToLocals, Value.category]; done)) ?_
  refine oWk.to (mkF m 3 #[iv xp] [(.int 47), (.int xp)]) (fun _ kt => zI X hx hby d6_0 rfl rfl (zL X hx hby d6_1 rfl kt)) ?_
  by_cases hc3 : xp = (47 : Int32)
  · refine oWk.to (mkF m 18 #[iv xp] []) (fun _ kt => zY X hx hby d6_3 rfl rfl (teq hc3).1 (pc' := 18) rfl kt) ?_
    refine oWk.to (mkF m 19 #[iv xp] [(.int 0)]) (fun _ kt => zK X hx hby d6_18 rfl kt) ?_
    exact oRetZ X hx hlk hret (hb hby d6_19) (Or.inl rfl) (by rw [e0]; exact ⟨(by rw [oBi_f (fun q => q.1 hc3)]), rfl, K⟩) (by decide) (by decide)
  · refine oWk.to (mkF m 6 #[iv xp] []) (fun _ kt => zN X hx hby d6_3 rfl rfl (feq hc3).1 kt) ?_
    refine oWk.to (mkF m 9 #[iv xp] [(.int 92), (.int xp)]) (fun _ kt => zI X hx hby d6_6 rfl rfl (zL X hx hby d6_7 rfl kt)) ?_
    by_cases hc9 : xp = (92 : Int32)
    · refine oWk.to (mkF m 18 #[iv xp] []) (fun _ kt => zY X hx hby d6_9 rfl rfl (teq hc9).1 (pc' := 18) rfl kt) ?_
      refine oWk.to (mkF m 19 #[iv xp] [(.int 0)]) (fun _ kt => zK X hx hby d6_18 rfl kt) ?_
      exact oRetZ X hx hlk hret (hb hby d6_19) (Or.inl rfl) (by rw [e0]; exact ⟨(by rw [oBi_f (fun q => q.2.1 hc9)]), rfl, K⟩) (by decide) (by decide)
    · refine oWk.to (mkF m 12 #[iv xp] []) (fun _ kt => zN X hx hby d6_9 rfl rfl (feq hc9).1 kt) ?_
      refine oWk.to (mkF m 15 #[iv xp] [(.int 58), (.int xp)]) (fun _ kt => zI X hx hby d6_12 rfl rfl (zL X hx hby d6_13 rfl kt)) ?_
      by_cases hc15 : xp = (58 : Int32)
      · refine oWk.to (mkF m 18 #[iv xp] []) (fun _ kt => zN X hx hby d6_15 rfl rfl (teq hc15).2 kt) ?_
        refine oWk.to (mkF m 19 #[iv xp] [(.int 0)]) (fun _ kt => zK X hx hby d6_18 rfl kt) ?_
        exact oRetZ X hx hlk hret (hb hby d6_19) (Or.inl rfl) (by rw [e0]; exact ⟨(by rw [oBi_f (fun q => q.2.2.1 hc15)]), rfl, K⟩) (by decide) (by decide)
      · refine oWk.to (mkF m 20 #[iv xp] []) (fun _ kt => zY X hx hby d6_15 rfl rfl (feq hc15).2 (pc' := 20) rfl kt) ?_
        refine oWk.to (mkF m 23 #[iv xp] [(.int 32), (.int xp)]) (fun _ kt => zI X hx hby d6_20 rfl rfl (zL X hx hby d6_21 rfl kt)) ?_
        by_cases hc23 : xp < (32 : Int32)
        · refine oWk.to (mkF m 26 #[iv xp] []) (fun _ kt => zN X hx hby d6_23 rfl rfl (tlt hc23).2.1 kt) ?_
          refine oWk.to (mkF m 27 #[iv xp] [(.int 0)]) (fun _ kt => zK X hx hby d6_26 rfl kt) ?_
          exact oRetZ X hx hlk hret (hb hby d6_27) (Or.inl rfl) (by rw [e0]; exact ⟨(by rw [oBi_f (fun q => q.2.2.2 (Or.inl hc23))]), rfl, K⟩) (by decide) (by decide)
        · refine oWk.to (mkF m 28 #[iv xp] []) (fun _ kt => zY X hx hby d6_23 rfl rfl (flt hc23).2.1 (pc' := 28) rfl kt) ?_
          refine oWk.to (mkF m 31 #[iv xp] [(.int 127), (.int xp)]) (fun _ kt => zI X hx hby d6_28 rfl rfl (zL X hx hby d6_29 rfl kt)) ?_
          by_cases hc31 : xp < (127 : Int32)
          · refine oWk.to (mkF m 43 #[iv xp] []) (fun _ kt => zY X hx hby d6_31 rfl rfl (tlt hc31).1 (pc' := 43) rfl kt) ?_
            refine oWk.to (mkF m 44 #[iv xp] [(.int 1)]) (fun _ kt => zK X hx hby d6_43 rfl kt) ?_
            exact oRetZ X hx hlk hret (hb hby d6_44) (Or.inr rfl) (by rw [e0]; exact ⟨(by rw [oBi_t ⟨hc3, hc9, hc15, fun q => q.elim hc23 (fun z => z.1 hc31)⟩]), rfl, K⟩) (by decide) (by decide)
          · refine oWk.to (mkF m 34 #[iv xp] []) (fun _ kt => zN X hx hby d6_31 rfl rfl (flt hc31).1 kt) ?_
            refine oWk.to (mkF m 38 #[iv xp] [(.int 159), (.int xp)]) (fun _ kt => zI X hx hby d6_34 rfl rfl (zM X hx hby d6_35 rfl kt)) ?_
            by_cases hc38 : (159 : Int32) < xp
            · refine oWk.to (mkF m 43 #[iv xp] []) (fun _ kt => zY X hx hby d6_38 rfl rfl (tlt hc38).2.2.1 (pc' := 43) rfl kt) ?_
              refine oWk.to (mkF m 44 #[iv xp] [(.int 1)]) (fun _ kt => zK X hx hby d6_43 rfl kt) ?_
              exact oRetZ X hx hlk hret (hb hby d6_44) (Or.inr rfl) (by rw [e0]; exact ⟨(by rw [oBi_t ⟨hc3, hc9, hc15, fun q => q.elim hc23 (fun z => z.2 hc38)⟩]), rfl, K⟩) (by decide) (by decide)
            · refine oWk.to (mkF m 41 #[iv xp] []) (fun _ kt => zN X hx hby d6_38 rfl rfl (flt hc38).2.2.1 kt) ?_
              refine oWk.to (mkF m 42 #[iv xp] [(.int 0)]) (fun _ kt => zK X hx hby d6_41 rfl kt) ?_
              exact oRetZ X hx hlk hret (hb hby d6_42) (Or.inl rfl) (by rw [e0]; exact ⟨(by rw [oBi_f (fun q => q.2.2.2 (Or.inr ⟨hc31, hc38⟩))]), rfl, K⟩) (by decide) (by decide)
theorem oR8 {x : Int32} (h : 0 ≤ x.toInt ∧ x.toInt < 256) : 0 ≤ x.toInt ∧ x.toInt < 65536 := ⟨h.1, by omega⟩
def Q_rI4_0 (Z : State) (xs xa : Addr) (xu xv : Value) (h0 : Heap) (v : Option Value) (h : Heap) (L : List Loc) : Prop := ∃ (nb : Addr) (nk : ClassId), v = none ∧ oKp h0 h [xs] L ∧ (Exa Z h xs Y0) ∧ (Fld Z h xs Y0 "coder" "B" (.int (0 : Int32))) ∧ (Fld Z h xs Y0 "value" "[B" (.ref nb)) ∧ (Arv Z h nb nk .byte (0 : Int32) [] (.int (0 : Int32)))
theorem pn_2 : plainName "java/lang/String" = true := by first | (simp [plainName, overriddenIn]; done) | decide +kernel
abbrev yy3 : MethodName := ⟨"java/lang/String", "<init>", "([CIILjava/lang/Void;)V"⟩
theorem d2_0 : decode jdk_42_method_149_code 0 = .ok (.aload_n 0, 1) := by decide +kernel
theorem d2_1 : decode jdk_42_method_149_code 1 = .ok (.invokespecial 1, 3) := by decide +kernel
theorem d2_4 : decode jdk_42_method_149_code 4 = .ok (.iload_n 3, 1) := by decide +kernel
theorem d2_5 : decode jdk_42_method_149_code 5 = .ok (.ifCond .ne 22, 3) := by decide +kernel
theorem d2_8 : decode jdk_42_method_149_code 8 = .ok (.aload_n 0, 1) := by decide +kernel
theorem d2_9 : decode jdk_42_method_149_code 9 = .ok (.ldc 7, 2) := by decide +kernel
theorem d2_11 : decode jdk_42_method_149_code 11 = .ok (.getfield 9, 3) := by decide +kernel
theorem d2_14 : decode jdk_42_method_149_code 14 = .ok (.putfield 9, 3) := by decide +kernel
theorem d2_17 : decode jdk_42_method_149_code 17 = .ok (.aload_n 0, 1) := by decide +kernel
theorem d2_18 : decode jdk_42_method_149_code 18 = .ok (.ldc 7, 2) := by decide +kernel
theorem d2_20 : decode jdk_42_method_149_code 20 = .ok (.getfield 15, 3) := by decide +kernel
theorem d2_23 : decode jdk_42_method_149_code 23 = .ok (.putfield 15, 3) := by decide +kernel
theorem d2_26 : decode jdk_42_method_149_code 26 = .ok (.return_, 1) := by decide +kernel
theorem rI4_0 (l : Launch) (Z : State) (a0 : Array Value) (hw : oHW a0 Z) (ws : List Jvm.Cond) (xs xa : Addr) (xu xv : Value) (h0 : Heap) (O0 : Ext Z.heap h0) (og_xs : Z.heap.size ≤ xs) (E_xs : Exa Z h0 xs Y0) (F_value_xs : Fld Z h0 xs Y0 "value" "[B" xu) (F_coder_xs : Fld Z h0 xs Y0 "coder" "B" xv) :
    oConH l Z oEL yy3 jdk_42_method_149_code 6 none ws ({ frames := 1, cells := 4, slots := 8, locals := 12 } : Room) #[(.ref xs), (.ref xa), (.int (0 : Int32)), (.int (0 : Int32)), .null] h0 [xs] (Q_rI4_0 Z xs xa xu xv h0) := by
  refine oConH.of (plainFor_of_name pn_2) ?_
  intro p e s m below meth c T vm X hx hby hml hown hnm hret hlk hZ e0 B hsf
  have sf_xs := hsf xs (List.mem_of_getElem? (i := 0) rfl)
  have hml : c.maxLocals = 6 := hml
  have K : oKp h0 h0 [xs] [] := oKp.nil _ _
  refine oWk.cast (g' := (mkF m 0 #[rv xs, rv xa, iv 0, iv 0, .val .null, uu] [])) (by first | rfl | (simp [entryFrame, mkF, argsToLocals, Value.category]; done)) ?_
  refine oWk.st (fun _ kt => zA X hx hby d2_0 rfl rfl rfl kt) ?_
  obtain ⟨T, X, e0, st⟩ := initO X hx hZ hown (oW hw 13 rfl) (oW hw 14 rfl) (oW hw 15 rfl) e0 (g := (mkF m 1 #[rv xs, rv xa, iv 0, iv 0, .val .null, uu] [(.ref xs)])) rfl (by rw [hml]; rfl) rfl (hb hby d2_1) (by decide) (W := 0) (Nat.le_of_eq rfl) (by decide)
  refine oWk.st (fun _ kt => st _ (zI X hx hby d2_4 rfl rfl (zH X hx hby d2_5 rfl rfl ((if0 _ _).trans (teq (by decide)).2) (zA X hx hby d2_8 rfl rfl rfl kt)))) ?_
  obtain ⟨lt1, T, h, lt1b, lt1k, X, e2, E1, hZ, hown, B, C, E_lt1, F_coder_lt1, F_value_lt1, V_lt1b, hne, st⟩ := oLdcR X hx hZ hown (oW hw 16 rfl) (oSA hw) e0 (oELw hw) (List.mem_of_getElem? (i := 0) rfl) B (vs := []) (z := 0) oTx0 (by decide) rfl (g := (mkF m 9 #[rv xs, rv xa, iv 0, iv 0, .val .null, uu] [(.ref xs)])) rfl (hb hby d2_9) (n := 0) (by decide) (by decide) (by decide) (by decide)
  have sf_xs := C.safe E_xs.lt sf_xs
  have e0 := e2
  have K := K.ext E1
  have ne_xs_lt1 := (hne _ sf_xs).1
  have ne_xs_lt1b := (hne _ sf_xs).2
  refine oWk.st (fun _ kt => st _ kt) ?_
  obtain ⟨T, X, e0, st⟩ := getF X hx hZ hown (host := "") (Or.inl (oW hw 22 rfl)) Via.refl e0 F_value_lt1 (g := (mkF m 11 #[rv xs, rv xa, iv 0, iv 0, .val .null, uu] [(.ref lt1), (.ref xs)])) rfl rfl (hb hby d2_11)
  refine oWk.st (fun _ kt => st _ kt) ?_
  have E_xs := (E_xs.ext E1)
  have F_value_xs := (F_value_xs.ext E1)
  obtain ⟨T, h, X, e0, W2, st⟩ := putF X hx hZ hown (host := "") (Or.inl (oW hw 22 rfl)) Via.refl e0 F_value_xs E_xs (Or.inr ⟨(oW hw 18 rfl), rfl, hnm⟩) (oW hw 4 rfl) (ty := (.array .byte)) (by decide) rfl rfl (g := (mkF m 14 #[rv xs, rv xa, iv 0, iv 0, .val .null, uu] [(.ref lt1b), (.ref xs)])) rfl rfl (hb hby d2_14)
  have K := K.wr W2 (Or.inl (List.mem_of_getElem? (i := 0) rfl))
  have sw : Safe Z oEL _ _ xs := sf_xs
  have sf_xs := Safe.wr W2 sw B.2.1 sf_xs
  have B := B.wr W2 sw
  have F_value_xs := F_value_xs.same W2
  refine oWk.st (fun _ kt => st _ (zA X hx hby d2_17 rfl rfl rfl kt)) ?_
  have E_xs := (E_xs.wr W2)
  obtain ⟨lt3, T, h, lt3b, lt3k, X, e2, E3, hZ, hown, B, C, E_lt3, F_coder_lt3, F_value_lt3, V_lt3b, hne, st⟩ := oLdcR X hx hZ hown (oW hw 16 rfl) (oSA hw) e0 (oELw hw) (List.mem_of_getElem? (i := 0) rfl) B (vs := []) (z := 0) oTx0 (by decide) rfl (g := (mkF m 18 #[rv xs, rv xa, iv 0, iv 0, .val .null, uu] [(.ref xs)])) rfl (hb hby d2_18) (n := 0) (by decide) (by decide) (by decide) (by decide)
  have sf_xs := C.safe E_xs.lt sf_xs
  have e0 := e2
  have K := K.ext E3
  have ne_xs_lt3 := (hne _ sf_xs).1
  have ne_xs_lt3b := (hne _ sf_xs).2
  refine oWk.st (fun _ kt => st _ kt) ?_
  obtain ⟨T, X, e0, st⟩ := getF X hx hZ hown (host := "") (Or.inl (oW hw 23 rfl)) Via.refl e0 F_coder_lt3 (g := (mkF m 20 #[rv xs, rv xa, iv 0, iv 0, .val .null, uu] [(.ref lt3), (.ref xs)])) rfl rfl (hb hby d2_20)
  refine oWk.st (fun _ kt => st _ kt) ?_
  have E_xs := (E_xs.ext E3)
  have F_coder_xs := (((F_coder_xs.ext E1).other W2 (Or.inr (slot_ne (Or.inr (oW hw 19 rfl)) (Or.inr (oW hw 18 rfl)) (by decide) (t := .byte) (t' := (.array .byte)) (by decide) (by decide)))).ext E3)
  obtain ⟨T, h, X, e0, W4, st⟩ := putFN X hx hZ hown (oW hw 23 rfl) Via.refl e0 F_coder_xs E_xs (Or.inr ⟨(oW hw 19 rfl), rfl, hnm⟩) (oW hw 4 rfl) (ty := .byte) (v' := .int (0 : Int32)) (by decide) rfl (by decide) (g := (mkF m 23 #[rv xs, rv xa, iv 0, iv 0, .val .null, uu] [(.int 0), (.ref xs)])) rfl rfl (hb hby d2_23)
  have K := K.wr W4 (Or.inl (List.mem_of_getElem? (i := 0) rfl))
  have sw : Safe Z oEL _ _ xs := sf_xs
  have sf_xs := Safe.wr W4 sw B.2.1 sf_xs
  have B := B.wr W4 sw
  have F_coder_xs := F_coder_xs.same W4
  refine oWk.to (mkF m 26 #[rv xs, rv xa, iv 0, iv 0, .val .null, uu] []) (fun _ kt => st _ kt) ?_
  have E_xs := (E_xs.wr W4)
  have F_value_xs := ((F_value_xs.ext E3).other W4 (Or.inr (slot_ne (Or.inr (oW hw 18 rfl)) (Or.inr (oW hw 19 rfl)) (by decide) (t := (.array .byte)) (t' := .byte) (by decide) (by decide))))
  have V_lt1b := (((V_lt1b.other W2 (Ne.symm ne_xs_lt1b)).ext E3).other W4 (Ne.symm ne_xs_lt1b))
  exact oRetHV X hx hlk hZ (oELw hw) e0 B hret (hb hby d2_26) (by rw [e0]; exact ⟨lt1b, lt1k, rfl, K, E_xs, F_coder_xs, F_value_xs, V_lt1b⟩) (by decide) (by decide)
def Q_rI1_0 (Z : State) (xs xa : Addr) (xk : ClassId) (xu xv : Value) (h0 : Heap) (v : Option Value) (h : Heap) (L : List Loc) : Prop := ∃ (nb : Addr) (nk : ClassId), v = none ∧ oKp h0 h [xs] L ∧ (Exa Z h xs Y0) ∧ (Fld Z h xs Y0 "coder" "B" (.int (0 : Int32))) ∧ (Fld Z h xs Y0 "value" "[B" (.ref nb)) ∧ (Arv Z h nb nk .byte (0 : Int32) [] (.int (0 : Int32)))
abbrev yy4 : MethodName := ⟨"java/lang/String", "<init>", "([C)V"⟩
theorem d1_0 : decode jdk_42_method_3_code 0 = .ok (.aload_n 0, 1) := by decide +kernel
theorem d1_1 : decode jdk_42_method_3_code 1 = .ok (.aload_n 1, 1) := by decide +kernel
theorem d1_2 : decode jdk_42_method_3_code 2 = .ok (.iconst 0, 1) := by decide +kernel
theorem d1_3 : decode jdk_42_method_3_code 3 = .ok (.aload_n 1, 1) := by decide +kernel
theorem d1_4 : decode jdk_42_method_3_code 4 = .ok (.arraylength, 1) := by decide +kernel
theorem d1_5 : decode jdk_42_method_3_code 5 = .ok (.aconst_null, 1) := by decide +kernel
theorem d1_6 : decode jdk_42_method_3_code 6 = .ok (.invokespecial 27, 3) := by decide +kernel
theorem pd_1 : parseMethodDescriptor "([CIILjava/lang/Void;)V" = some ⟨[(.array .char), .int, .int, (.object "java/lang/Void")], none⟩ := by decide +kernel
theorem d1_9 : decode jdk_42_method_3_code 9 = .ok (.return_, 1) := by decide +kernel
theorem rI1_0 (l : Launch) (Z : State) (a0 : Array Value) (hw : oHW a0 Z) (ws : List Jvm.Cond) (xs xa : Addr) (xk : ClassId) (xu xv : Value) (h0 : Heap) (O0 : Ext Z.heap h0) (og_xs : Z.heap.size ≤ xs) (E_xs : Exa Z h0 xs Y0) (F_value_xs : Fld Z h0 xs Y0 "value" "[B" xu) (F_coder_xs : Fld Z h0 xs Y0 "coder" "B" xv) (V_xa : Arv Z h0 xa xk .char (0 : Int32) [] (.int (0 : Int32))) :
    oConH l Z oEL yy4 jdk_42_method_3_code 2 none ws ({ frames := 2, cells := 4, slots := 8, locals := 29 } : Room) #[(.ref xs), (.ref xa)] h0 [xs] (Q_rI1_0 Z xs xa xk xu xv h0) := by
  refine oConH.of (plainFor_of_name pn_2) ?_
  intro p e s m below meth c T vm X hx hby hml hown hnm hret hlk hZ e0 B hsf
  have sf_xs := hsf xs (List.mem_of_getElem? (i := 0) rfl)
  have hml : c.maxLocals = 2 := hml
  have K : oKp h0 h0 [xs] [] := oKp.nil _ _
  refine oWk.cast (g' := (mkF m 0 #[rv xs, rv xa] [])) (by first | rfl | (simp [entryFrame, mkF, argsToLocals, Value.category]; done)) ?_
  refine oWk.st (fun _ kt => zA X hx hby d1_0 rfl rfl rfl (zA X hx hby d1_1 rfl rfl rfl (zK X hx hby d1_2 rfl (zA X hx hby d1_3 rfl rfl rfl (oAl X hx hZ e0 V_xa hby d1_4 rfl rfl (XS.aconstNull X.here hx rfl (hb hby d1_5) kt)))))) ?_
  have Oh := K.old O0 (allS og_xs all0)
  obtain ⟨_, _, ⟨T, L3, k3, n3⟩, -, X, hS, hgr, ⟨Lc3, hQ, l3, y3, z3, C⟩, st⟩ := X.specialBackS hx (y := yy3) rfl hown (mvT hZ (oW hw 9 rfl)) (mvT hZ (oW hw 10 rfl)) (mvT hZ (oW hw 12 rfl)) (by decide) (oBackH (W := 0) (rI4_0 l Z a0 hw [] xs xa xu xv h0 Oh og_xs E_xs F_value_xs F_coder_xs) hZ (oW hw 12 rfl) (oW hw 5 rfl) (by decide) (by decide) (oELw hw) B.2.1 (allS ⟨E_xs.lt, sf_xs⟩ all0)) (g := (mkF m 6 #[rv xs, rv xa] [.null, (.int 0), (.int 0), (.ref xa), (.ref xs)])) rfl (by rw [hml]; rfl) (Steps.refl _) (a := xs) (argsL := [(.ref xa), (.int (0 : Int32)), (.int (0 : Int32)), .null]) (rest := []) (lenOf pd_1 rfl) rfl (Nat.le_of_eq rfl) (hb hby d1_6) (fun _ _ => ⟨rfl, e0, (by decide : 0 + 4 ≤ _), (by decide : 0 + 8 ≤ _)⟩)
  dsimp only [Pt.U, Pt.locs, Pt.cells, Pt.slots] at X l3 y3 z3 st hQ C hS hgr
  subst l3 y3 z3
  have X : Stand p l e _ (s.setVm T.vm) m _ below meth c T _ _ _ := X
  obtain ⟨h, e2⟩ : ∃ z, T.heap = z := ⟨_, rfl⟩
  have B := B.call e0 hS hgr C e2
  obtain ⟨hZ, hown⟩ := oWide hZ hown hS
  rw [e2] at hQ C
  have sf_xs := C.safe E_xs.lt sf_xs
  have e0 := e2
  obtain ⟨nb2, nk2, rfl, K2, E_xs, F_coder_xs, F_value_xs, V_nb2⟩ := hQ
  have K := K.call K2 (allS (Or.inl (List.mem_of_getElem? (i := 0) rfl)) all0)
  refine oWk.to (mkF m 9 #[rv xs, rv xa] []) (fun _ kt => st.trans kt) ?_
  exact oRetHV X hx hlk hZ (oELw hw) e0 B hret (hb hby d1_9) (by rw [e0]; exact ⟨nb2, nk2, rfl, K, E_xs, F_coder_xs, F_value_xs, V_nb2⟩) (by decide) (by decide)
def Q_rC5_1 (Z : State) (xa xd : Addr) (xk xl : ClassId) (xc0 : Int32) (h0 : Heap) (v : Option Value) (h : Heap) (L : List Loc) : Prop := v = some (.int (1 : Int32)) ∧ oKp h0 h [xd] L ∧ (Arv Z h xd xl .byte (1 : Int32) [(ib xc0)] (.int (0 : Int32)))
theorem pn_3 : plainName "java/lang/StringUTF16" = true := by first | (simp [plainName, overriddenIn]; done) | decide +kernel
abbrev yy5 : MethodName := ⟨"java/lang/StringUTF16", "compress", "([CI[BII)I"⟩
theorem d8_0 : decode jdk_52_method_21_code 0 = .ok (.iconst 0, 1) := by decide +kernel
theorem d8_1 : decode jdk_52_method_21_code 1 = .ok (.istore 5, 2) := by decide +kernel
theorem d8_3 : decode jdk_52_method_21_code 3 = .ok (.iload 5, 2) := by decide +kernel
theorem d8_5 : decode jdk_52_method_21_code 5 = .ok (.iload 4, 2) := by decide +kernel
theorem d8_7 : decode jdk_52_method_21_code 7 = .ok (.if_icmp .ge 37, 3) := by decide +kernel
theorem d8_10 : decode jdk_52_method_21_code 10 = .ok (.aload_n 0, 1) := by decide +kernel
theorem d8_11 : decode jdk_52_method_21_code 11 = .ok (.iload_n 1, 1) := by decide +kernel
theorem d8_12 : decode jdk_52_method_21_code 12 = .ok (.caload, 1) := by decide +kernel
theorem d8_13 : decode jdk_52_method_21_code 13 = .ok (.istore 6, 2) := by decide +kernel
theorem d8_15 : decode jdk_52_method_21_code 15 = .ok (.iload 6, 2) := by decide +kernel
theorem d8_17 : decode jdk_52_method_21_code 17 = .ok (.sipush 255, 3) := by decide +kernel
theorem d8_20 : decode jdk_52_method_21_code 20 = .ok (.if_icmp .le 6, 3) := by decide +kernel
theorem d8_26 : decode jdk_52_method_21_code 26 = .ok (.aload_n 2, 1) := by decide +kernel
theorem d8_27 : decode jdk_52_method_21_code 27 = .ok (.iload_n 3, 1) := by decide +kernel
theorem d8_28 : decode jdk_52_method_21_code 28 = .ok (.iload 6, 2) := by decide +kernel
theorem d8_30 : decode jdk_52_method_21_code 30 = .ok (.i2b, 1) := by decide +kernel
theorem d8_31 : decode jdk_52_method_21_code 31 = .ok (.bastore, 1) := by decide +kernel
theorem d8_32 : decode jdk_52_method_21_code 32 = .ok (.iinc 1 1, 3) := by decide +kernel
theorem d8_35 : decode jdk_52_method_21_code 35 = .ok (.iinc 3 1, 3) := by decide +kernel
theorem d8_38 : decode jdk_52_method_21_code 38 = .ok (.iinc 5 1, 3) := by decide +kernel
theorem d8_41 : decode jdk_52_method_21_code 41 = .ok (.goto (-38), 3) := by decide +kernel
theorem d8_44 : decode jdk_52_method_21_code 44 = .ok (.iload 4, 2) := by decide +kernel
theorem d8_46 : decode jdk_52_method_21_code 46 = .ok (.ireturn, 1) := by decide +kernel
theorem rC5_1 (l : Launch) (Z : State) (a0 : Array Value) (hw : oHW a0 Z) (ws : List Jvm.Cond) (xa xd : Addr) (xk xl : ClassId) (xc0 : Int32) (h0 : Heap) (O0 : Ext Z.heap h0) (og_xd : Z.heap.size ≤ xd) (ne_xa_xd : xa ≠ xd) (V_xa : Arv Z h0 xa xk .char (1 : Int32) [(.int xc0)] (.int (0 : Int32))) (V_xd : Arv Z h0 xd xl .byte (1 : Int32) [(.int (0 : Int32))] (.int (0 : Int32))) (hc0_ : ¬ (255 : Int32) < xc0) :
    oCon l Z yy5 jdk_52_method_21_code 7 (some .int) ws ({ frames := 0, cells := 0, slots := 0, locals := 0 } : Room) #[(.ref xa), (.int (0 : Int32)), (.ref xd), (.int (0 : Int32)), (.int (1 : Int32))] h0 (Q_rC5_1 Z xa xd xk xl xc0 h0) := by
  refine oCon.of (plainFor_of_name pn_3) ?_
  intro p e s m below meth c T X hx hby hml hown hnm hret hlk hZ e0
  have hml : c.maxLocals = 7 := hml
  have K : oKp h0 h0 [xd] [] := oKp.nil _ _
  refine oWk.cast (g' := (mkF m 0 #[rv xa, iv 0, rv xd, iv 0, iv 1, uu, uu] [])) (by first | rfl | (simp [entryFrame, mkF, argsToLocals, Value.category]; done)) ?_
  refine oWk.to (mkF m 12 #[rv xa, iv 0, rv xd, iv 0, iv 1, iv 0, uu] [(.int 0), (.ref xa)]) (fun _ kt => zK X hx hby d8_0 rfl (zS X hx hby d8_1 rfl rfl (l' := #[rv xa, iv 0, rv xd, iv 0, iv 1, iv 0, uu]) rfl (zJ X hx hby d8_3 rfl rfl (zJ X hx hby d8_5 rfl rfl (zN X hx hby d8_7 rfl rfl (tlt (by decide)).2.1 (zA X hx hby d8_10 rfl rfl rfl (zI X hx hby d8_11 rfl rfl kt))))))) ?_
  refine oWk.to (mkF m 20 #[rv xa, iv 0, rv xd, iv 0, iv 1, iv 0, iv xc0] [(.int 255), (.int xc0)]) (fun _ kt => oLdC X hx hZ e0 V_xa (0 : Int32) (.int xc0) ⟨by decide, by decide⟩ rfl hby d8_12 rfl rfl (zS X hx hby d8_13 rfl rfl (l' := #[rv xa, iv 0, rv xd, iv 0, iv 1, iv 0, iv xc0]) rfl (zJ X hx hby d8_15 rfl rfl (zM X hx hby d8_17 rfl kt)))) ?_
  refine oWk.to (mkF m 31 #[rv xa, iv 0, rv xd, iv 0, iv 1, iv 0, iv xc0] [(ib xc0), (.int 0), (.ref xd)]) (fun _ kt => zY X hx hby d8_20 rfl rfl (flt hc0_).2.2.2 (pc' := 26) rfl (zA X hx hby d8_26 rfl rfl rfl (zI X hx hby d8_27 rfl rfl (zJ X hx hby d8_28 rfl rfl (XS.i2b X.here hx rfl (hb hby d8_30) rfl kt))))) ?_
  obtain ⟨cl2, Ar2, q2, Sz2, Nn2, Hs2, Ft2⟩ := id V_xd
  have hin2 : ¬ ((0 : Int32) < 0 ∨ cl2.slots.size ≤ ((0 : Int32)).toNatClampNeg) := inb_of Sz2 ⟨by decide, by decide⟩
  obtain ⟨T, h, X, e0, W2, st⟩ := stB X hx hZ e0 Ar2 (j := (0 : Int32)) hin2 (g := (mkF m 31 #[rv xa, iv 0, rv xd, iv 0, iv 1, iv 0, iv xc0] [(ib xc0), (.int 0), (.ref xd)])) rfl rfl (hb hby d8_31)
  have K := K.wr W2 (Or.inl (List.mem_of_getElem? (i := 0) rfl))
  have V_xd := Arv.set Ar2 q2 Sz2 Nn2 Hs2 Ft2 (fits_nar_byte _) W2 0 rfl (Nat.le_of_ble_eq_true rfl)
  rw [oB8 xc0] at V_xd
  replace V_xd : Arv Z h xd xl .byte (1 : Int32) [(ib xc0)] (.int (0 : Int32)) := V_xd
  refine oWk.to (mkF m 7 #[rv xa, iv 1, rv xd, iv 1, iv 1, iv 1, iv xc0] [(.int 1), (.int 1)]) (fun _ kt => st _ (zC X hx hby d8_32 rfl rfl (l' := #[rv xa, iv ((0 : Int32) + (1 : Int32)), rv xd, iv 0, iv 1, iv 0, iv xc0]) rfl (zC X hx hby d8_35 rfl rfl (l' := #[rv xa, iv 1, rv xd, iv ((0 : Int32) + (1 : Int32)), iv 1, iv 0, iv xc0]) rfl (zC X hx hby d8_38 rfl rfl (l' := #[rv xa, iv 1, rv xd, iv 1, iv 1, iv ((0 : Int32) + (1 : Int32)), iv xc0]) rfl (zG X hx hby d8_41 rfl (pc' := 3) rfl (zJ X hx hby d8_3 rfl rfl (zJ X hx hby d8_5 rfl rfl kt))))))) ?_
  refine oWk.to (mkF m 46 #[rv xa, iv 1, rv xd, iv 1, iv 1, iv 1, iv xc0] [(.int 1)]) (fun _ kt => zY X hx hby d8_7 rfl rfl (flt (by decide)).2.1 (pc' := 44) rfl (zJ X hx hby d8_44 rfl rfl kt)) ?_
  exact oRetI X hx hlk hret (hb hby d8_46) (by rw [e0]; exact ⟨rfl, K, V_xd⟩) (by decide) (by decide)
def Q_rC3_1 (Z : State) (xa : Addr) (xk : ClassId) (xc0 : Int32) (h0 : Heap) (v : Option Value) (h : Heap) (L : List Loc) : Prop := ∃ (nb : Addr) (nk : ClassId), v = some (.ref nb) ∧ oKp h0 h [] L ∧ (h0.size ≤ nb) ∧ (Arv Z h nb nk .byte (1 : Int32) [(ib xc0)] (.int (0 : Int32)))
abbrev yy6 : MethodName := ⟨"java/lang/StringUTF16", "compress", "([CII)[B"⟩
theorem d7_0 : decode jdk_52_method_16_code 0 = .ok (.iload_n 2, 1) := by decide +kernel
theorem d7_1 : decode jdk_52_method_16_code 1 = .ok (.newarray .byte, 2) := by decide +kernel
theorem d7_3 : decode jdk_52_method_16_code 3 = .ok (.astore_n 3, 1) := by decide +kernel
theorem d7_4 : decode jdk_52_method_16_code 4 = .ok (.aload_n 0, 1) := by decide +kernel
theorem d7_5 : decode jdk_52_method_16_code 5 = .ok (.iload_n 1, 1) := by decide +kernel
theorem d7_6 : decode jdk_52_method_16_code 6 = .ok (.aload_n 3, 1) := by decide +kernel
theorem d7_7 : decode jdk_52_method_16_code 7 = .ok (.iconst 0, 1) := by decide +kernel
theorem d7_8 : decode jdk_52_method_16_code 8 = .ok (.iload_n 2, 1) := by decide +kernel
theorem d7_9 : decode jdk_52_method_16_code 9 = .ok (.invokestatic 115, 3) := by decide +kernel
theorem pd_2 : parseMethodDescriptor "([CI[BII)I" = some ⟨[(.array .char), .int, (.array .byte), .int, .int], some .int⟩ := by decide +kernel
theorem cs1 {a0 : Array Value} {Z : State} (hw : oHW a0 Z) : oCall Z Y1 (.invokestatic 115) yy5 jdk_52_method_21_code 7 (some .int) (oRs 5) := oCall.stat (oW hw 42 rfl) (oW hw 43 rfl) (oW hw 40 rfl) (oW hw 44 rfl) (by decide) pd_2
theorem d7_12 : decode jdk_52_method_16_code 12 = .ok (.istore 4, 2) := by decide +kernel
theorem d7_14 : decode jdk_52_method_16_code 14 = .ok (.iload 4, 2) := by decide +kernel
theorem d7_16 : decode jdk_52_method_16_code 16 = .ok (.iload_n 2, 1) := by decide +kernel
theorem d7_17 : decode jdk_52_method_16_code 17 = .ok (.if_icmp .eq 40, 3) := by decide +kernel
theorem d7_57 : decode jdk_52_method_16_code 57 = .ok (.aload_n 3, 1) := by decide +kernel
theorem d7_58 : decode jdk_52_method_16_code 58 = .ok (.areturn, 1) := by decide +kernel
theorem rC3_1 (l : Launch) (Z : State) (a0 : Array Value) (hw : oHW a0 Z) (ws : List Jvm.Cond) (xa : Addr) (xk : ClassId) (xc0 : Int32) (h0 : Heap) (O0 : Ext Z.heap h0) (V_xa : Arv Z h0 xa xk .char (1 : Int32) [(.int xc0)] (.int (0 : Int32))) (hc0_ : ¬ (255 : Int32) < xc0) :
    oCon l Z yy6 jdk_52_method_16_code 6 (some (.array .byte)) ws ({ frames := 1, cells := 1, slots := 1, locals := 18 } : Room) #[(.ref xa), (.int (0 : Int32)), (.int (1 : Int32))] h0 (Q_rC3_1 Z xa xk xc0 h0) := by
  refine oCon.of (plainFor_of_name pn_3) ?_
  intro p e s m below meth c T X hx hby hml hown hnm hret hlk hZ e0
  have hml : c.maxLocals = 6 := hml
  have K : oKp h0 h0 [] [] := oKp.nil _ _
  refine oWk.cast (g' := (mkF m 0 #[rv xa, iv 0, iv 1, uu, uu, uu] [])) (by first | rfl | (simp [entryFrame, mkF, argsToLocals, Value.category]; done)) ?_
  refine oWk.st (fun _ kt => zI X hx hby d7_0 rfl rfl kt) ?_
  obtain ⟨o1, g1⟩ : ∃ z, z = h0.size := ⟨_, rfl⟩
  have ne_xa_o1 : xa ≠ o1 := Nat.ne_of_lt (Nat.lt_of_lt_of_le V_xa.lt (Nat.le_of_eq g1.symm))
  have ge_o1 : h0.size ≤ o1 := Nat.le_trans K.le (Nat.le_of_eq g1.symm)
  obtain ⟨T, h, k1, X, e0, E1, A1, st⟩ := newP X hx hZ (oW hw 17 rfl) e0 (g := (mkF m 1 #[rv xa, iv 0, iv 1, uu, uu, uu] [(.int 1)])) rfl (hb hby d7_1) rfl (by decide) (cap := 1) (by decide) (by decide) (by decide) (by decide)
  rw [← g1] at A1 st
  have K := K.ext E1
  have V_o1 : Arv Z h o1 k1 .byte (1 : Int32) [(.int (0 : Int32))] (.int (0 : Int32)) := (Arv.new A1 (by decide)).pad (pad_rep [] (.int (0 : Int32)) 1)
  refine oWk.to (mkF m 9 #[rv xa, iv 0, iv 1, rv o1, uu, uu] [(.int 1), (.int 0), (.ref o1), (.int 0), (.ref xa)]) (fun _ kt => st _ (zTn X hx hby d7_3 rfl rfl rfl (l' := #[rv xa, iv 0, iv 1, rv o1, uu, uu]) rfl (zA X hx hby d7_4 rfl rfl rfl (zI X hx hby d7_5 rfl rfl (zA X hx hby d7_6 rfl rfl rfl (zK X hx hby d7_7 rfl (zI X hx hby d7_8 rfl rfl kt))))))) ?_
  have V_xa := (V_xa.ext E1)
  have Oh := K.old O0 all0
  obtain ⟨_, T, h, Lc3, X, e0, hQ, st⟩ := (cs1 hw).run X hx hZ hown e0 (A := [(.ref xa), (.int (0 : Int32)), (.ref o1), (.int (0 : Int32)), (.int (1 : Int32))]) rfl (rC5_1 l Z a0 hw [] xa o1 xk k1 xc0 h Oh (Nat.le_trans O0.1 ge_o1) ne_xa_o1 V_xa V_o1 hc0_) (W := 0) (by decide) hml (Ls := #[rv xa, iv 0, iv 1, rv o1, uu, uu]) rfl (rest := []) rfl rfl hby d7_9
  obtain ⟨rfl, K2, V_o1⟩ := hQ
  have K := K.call K2 (allS (Or.inr ge_o1) all0)
  refine oWk.to (mkF m 58 #[rv xa, iv 0, iv 1, rv o1, iv 1, uu] [(.ref o1)]) (fun _ kt => st _ (zS X hx hby d7_12 rfl rfl (l' := #[rv xa, iv 0, iv 1, rv o1, iv 1, uu]) rfl (zJ X hx hby d7_14 rfl rfl (zI X hx hby d7_16 rfl rfl (zY X hx hby d7_17 rfl rfl (teq (by decide)).1 (pc' := 57) rfl (zA X hx hby d7_57 rfl rfl rfl kt)))))) ?_
  exact oRetA X hx hlk hret rfl rfl (hb hby d7_58) (by rw [e0]; exact ⟨o1, k1, rfl, K, ge_o1, V_o1⟩) (by decide) (by decide)
def Q_rCo_1 (Z : State) (xb : Addr) (xk : ClassId) (xy0 : Int32) (h0 : Heap) (v : Option Value) (h : Heap) (L : List Loc) : Prop := v = some (.int (0 : Int32)) ∧ h = h0 ∧ oKp h0 h [] L
abbrev yy7 : MethodName := ⟨"java/lang/StringUTF16", "coderFromArrayLen", "([BI)B"⟩
theorem d9_0 : decode jdk_52_method_15_code 0 = .ok (.iload_n 1, 1) := by decide +kernel
theorem d9_1 : decode jdk_52_method_15_code 1 = .ok (.aload_n 0, 1) := by decide +kernel
theorem d9_2 : decode jdk_52_method_15_code 2 = .ok (.arraylength, 1) := by decide +kernel
theorem d9_3 : decode jdk_52_method_15_code 3 = .ok (.isub, 1) := by decide +kernel
theorem d9_4 : decode jdk_52_method_15_code 4 = .ok (.bipush 31, 2) := by decide +kernel
theorem d9_6 : decode jdk_52_method_15_code 6 = .ok (.iushr, 1) := by decide +kernel
theorem d9_7 : decode jdk_52_method_15_code 7 = .ok (.i2b, 1) := by decide +kernel
theorem d9_8 : decode jdk_52_method_15_code 8 = .ok (.ireturn, 1) := by decide +kernel
theorem rCo_1 (l : Launch) (Z : State) (a0 : Array Value) (hw : oHW a0 Z) (ws : List Jvm.Cond) (xb : Addr) (xk : ClassId) (xy0 : Int32) (h0 : Heap) (O0 : Ext Z.heap h0) (V_xb : Arv Z h0 xb xk .byte (1 : Int32) [(.int xy0)] (.int (0 : Int32))) :
    oCon l Z yy7 jdk_52_method_15_code 2 (some .byte) ws ({ frames := 0, cells := 0, slots := 0, locals := 0 } : Room) #[(.ref xb), (.int (1 : Int32))] h0 (Q_rCo_1 Z xb xk xy0 h0) := by
  refine oCon.of (plainFor_of_name pn_3) ?_
  intro p e s m below meth c T X hx hby hml hown hnm hret hlk hZ e0
  have hml : c.maxLocals = 2 := hml
  have K : oKp h0 h0 [] [] := oKp.nil _ _
  refine oWk.cast (g' := (mkF m 0 #[rv xb, iv 1] [])) (by first | rfl | (simp [entryFrame, mkF, argsToLocals, Value.category]; done)) ?_
  refine oWk.to (mkF m 8 #[rv xb, iv 1] [(.int 0)]) (fun _ kt => zI X hx hby d9_0 rfl rfl (zA X hx hby d9_1 rfl rfl rfl (oAl X hx hZ e0 V_xb hby d9_2 rfl rfl (XS.isub X.here hx rfl (hb hby d9_3) rfl (zL X hx hby d9_4 rfl (XS.iushr X.here hx rfl (hb hby d9_6) rfl (XS.i2b X.here hx rfl (hb hby d9_7) rfl kt))))))) ?_
  exact oRetN X hx hlk hret (Or.inl rfl) rfl (hb hby d9_8) (by rw [e0]; exact ⟨rfl, rfl, K⟩) (by decide) (by decide)
def Q_rI4_1 (Z : State) (xs xa : Addr) (xk : ClassId) (xz : Int32) (xu xv : Value) (xc0 : Int32) (h0 : Heap) (v : Option Value) (h : Heap) (L : List Loc) : Prop := ∃ (nb : Addr) (nk : ClassId), v = none ∧ oKp h0 h [xs] L ∧ (Exa Z h xs Y0) ∧ (Fld Z h xs Y0 "coder" "B" (.int (0 : Int32))) ∧ (Fld Z h xs Y0 "value" "[B" (.ref nb)) ∧ (h0.size ≤ nb) ∧ (Arv Z h nb nk .byte (1 : Int32) [(ib xc0)] (.int (0 : Int32)))
theorem d2_27 : decode jdk_42_method_149_code 27 = .ok (.getstatic 38, 3) := by decide +kernel
theorem d2_30 : decode jdk_42_method_149_code 30 = .ok (.ifCond .eq 28, 3) := by decide +kernel
theorem d2_33 : decode jdk_42_method_149_code 33 = .ok (.aload_n 1, 1) := by decide +kernel
theorem d2_34 : decode jdk_42_method_149_code 34 = .ok (.iload_n 2, 1) := by decide +kernel
theorem d2_35 : decode jdk_42_method_149_code 35 = .ok (.iload_n 3, 1) := by decide +kernel
theorem d2_36 : decode jdk_42_method_149_code 36 = .ok (.invokestatic 177, 3) := by decide +kernel
theorem pd_3 : parseMethodDescriptor "([CII)[B" = some ⟨[(.array .char), .int, .int], some (.array .byte)⟩ := by decide +kernel
theorem cs2 {a0 : Array Value} {Z : State} (hw : oHW a0 Z) : oCall Z Y0 (.invokestatic 177) yy6 jdk_52_method_16_code 6 (some (.array .byte)) (oRs 3) := oCall.stat (oW hw 38 rfl) (oW hw 39 rfl) (oW hw 40 rfl) (oW hw 41 rfl) (by decide) pd_3
theorem d2_39 : decode jdk_42_method_149_code 39 = .ok (.astore 5, 2) := by decide +kernel
theorem d2_41 : decode jdk_42_method_149_code 41 = .ok (.aload_n 0, 1) := by decide +kernel
theorem d2_42 : decode jdk_42_method_149_code 42 = .ok (.aload 5, 2) := by decide +kernel
theorem d2_44 : decode jdk_42_method_149_code 44 = .ok (.iload_n 3, 1) := by decide +kernel
theorem d2_45 : decode jdk_42_method_149_code 45 = .ok (.invokestatic 47, 3) := by decide +kernel
theorem pd_4 : parseMethodDescriptor "([BI)B" = some ⟨[(.array .byte), .int], some .byte⟩ := by decide +kernel
theorem cs3 {a0 : Array Value} {Z : State} (hw : oHW a0 Z) : oCall Z Y0 (.invokestatic 47) yy7 jdk_52_method_15_code 2 (some .byte) (oRs 2) := oCall.stat (oW hw 45 rfl) (oW hw 46 rfl) (oW hw 40 rfl) (oW hw 47 rfl) (by decide) pd_4
theorem d2_48 : decode jdk_42_method_149_code 48 = .ok (.putfield 15, 3) := by decide +kernel
theorem d2_51 : decode jdk_42_method_149_code 51 = .ok (.aload_n 0, 1) := by decide +kernel
theorem d2_52 : decode jdk_42_method_149_code 52 = .ok (.aload 5, 2) := by decide +kernel
theorem d2_54 : decode jdk_42_method_149_code 54 = .ok (.putfield 9, 3) := by decide +kernel
theorem d2_57 : decode jdk_42_method_149_code 57 = .ok (.return_, 1) := by decide +kernel
theorem rI4_1 (l : Launch) (Z : State) (a0 : Array Value) (hw : oHW a0 Z) (ws : List Jvm.Cond) (xs xa : Addr) (xk : ClassId) (xz : Int32) (xu xv : Value) (xc0 : Int32) (h0 : Heap) (O0 : Ext Z.heap h0) (S_COMPACT_STRINGS : Sta Z Z.heap Y0 Y6 "Z" (.int xz)) (hz : ¬ xz = (0 : Int32)) (og_xs : Z.heap.size ≤ xs) (E_xs : Exa Z h0 xs Y0) (F_value_xs : Fld Z h0 xs Y0 "value" "[B" xu) (F_coder_xs : Fld Z h0 xs Y0 "coder" "B" xv) (V_xa : Arv Z h0 xa xk .char (1 : Int32) [(.int xc0)] (.int (0 : Int32))) (hc0_ : ¬ (255 : Int32) < xc0) :
    oCon l Z yy3 jdk_42_method_149_code 6 none ws ({ frames := 2, cells := 1, slots := 1, locals := 35 } : Room) #[(.ref xs), (.ref xa), (.int (0 : Int32)), (.int (1 : Int32)), .null] h0 (Q_rI4_1 Z xs xa xk xz xu xv xc0 h0) := by
  refine oCon.of (plainFor_of_name pn_2) ?_
  intro p e s m below meth c T X hx hby hml hown hnm hret hlk hZ e0
  have hml : c.maxLocals = 6 := hml
  have K : oKp h0 h0 [xs] [] := oKp.nil _ _
  refine oWk.cast (g' := (mkF m 0 #[rv xs, rv xa, iv 0, iv 1, .val .null, uu] [])) (by first | rfl | (simp [entryFrame, mkF, argsToLocals, Value.category]; done)) ?_
  refine oWk.st (fun _ kt => zA X hx hby d2_0 rfl rfl rfl kt) ?_
  obtain ⟨T, X, e0, st⟩ := initO X hx hZ hown (oW hw 13 rfl) (oW hw 14 rfl) (oW hw 15 rfl) e0 (g := (mkF m 1 #[rv xs, rv xa, iv 0, iv 1, .val .null, uu] [(.ref xs)])) rfl (by rw [hml]; rfl) rfl (hb hby d2_1) (by decide) (W := 0) (Nat.le_of_eq rfl) (by decide)
  refine oWk.st (fun _ kt => st _ (zI X hx hby d2_4 rfl rfl (zF X hx hby d2_5 rfl rfl ((if0 _ _).trans (feq (by decide)).2) (pc' := 27) rfl kt))) ?_
  have Oh := K.old O0 (allS og_xs all0)
  obtain ⟨T, X, e0, st⟩ := getS2 X hx hZ hown (host := "") (Or.inl (oW hw 37 rfl)) Via.refl e0 (S_COMPACT_STRINGS.ext Oh) (g := (mkF m 27 #[rv xs, rv xa, iv 0, iv 1, .val .null, uu] [])) rfl (hb hby d2_27)
  refine oWk.st (fun _ kt => st _ (zH X hx hby d2_30 rfl rfl ((if0 _ _).trans (feq hz).1) (zA X hx hby d2_33 rfl rfl rfl (zI X hx hby d2_34 rfl rfl (zI X hx hby d2_35 rfl rfl kt))))) ?_
  have lt_xs := E_xs.lt
  have lt_xa := V_xa.lt
  obtain ⟨_, T, h, Lc2, X, e0, hQ, st⟩ := (cs2 hw).run X hx hZ hown e0 (A := [(.ref xa), (.int (0 : Int32)), (.int (1 : Int32))]) rfl (rC3_1 l Z a0 hw [] xa xk xc0 h0 Oh V_xa hc0_) (W := 0) (by decide) hml (Ls := #[rv xs, rv xa, iv 0, iv 1, .val .null, uu]) rfl (rest := []) rfl rfl hby d2_36
  obtain ⟨nb1, nk1, rfl, K1, gn_nb1, V_nb1⟩ := hQ
  have ge_nb1 := Nat.le_trans K.le gn_nb1
  have ne_xs_nb1 : xs ≠ nb1 := Nat.ne_of_lt (Nat.lt_of_lt_of_le lt_xs gn_nb1)
  have ne_xa_nb1 : xa ≠ nb1 := Nat.ne_of_lt (Nat.lt_of_lt_of_le lt_xa gn_nb1)
  have K := K.call K1 all0
  refine oWk.st (fun _ kt => st _ (zT X hx hby d2_39 rfl rfl rfl (l' := #[rv xs, rv xa, iv 0, iv 1, .val .null, rv nb1]) rfl (zA X hx hby d2_41 rfl rfl rfl (zB X hx hby d2_42 rfl rfl rfl (zI X hx hby d2_44 rfl rfl kt))))) ?_
  have Oh := K.old O0 (allS og_xs all0)
  obtain ⟨T, L4, X, e0, K, st⟩ := (cs3 hw).pure X hx hZ hown e0 K (A := [(.ref nb1), (.int (1 : Int32))]) rfl (rCo_1 l Z a0 hw [] nb1 nk1 (xc0.toInt8.toInt32) h Oh V_nb1) (fun _ _ _ q => q) (W := 1) (by decide) hml (Ls := #[rv xs, rv xa, iv 0, iv 1, .val .null, rv nb1]) rfl (rest := [(.ref xs)]) rfl rfl hby d2_45
  refine oWk.st (fun _ kt => st _ kt) ?_
  have E_xs := (E_xs.keep K1.1)
  have F_coder_xs := (F_coder_xs.keep K1.1 nin0)
  obtain ⟨T, h, X, e0, W5, st⟩ := putFN X hx hZ hown (oW hw 23 rfl) Via.refl e0 F_coder_xs E_xs (Or.inr ⟨(oW hw 19 rfl), rfl, hnm⟩) (oW hw 4 rfl) (ty := .byte) (v' := .int (0 : Int32)) (by decide) rfl (by decide) (g := (mkF m 48 #[rv xs, rv xa, iv 0, iv 1, .val .null, rv nb1] [(.int 0), (.ref xs)])) rfl rfl (hb hby d2_48)
  have K := K.wr W5 (Or.inl (List.mem_of_getElem? (i := 0) rfl))
  have F_coder_xs := F_coder_xs.same W5
  refine oWk.st (fun _ kt => st _ (zA X hx hby d2_51 rfl rfl rfl (zB X hx hby d2_52 rfl rfl rfl kt))) ?_
  have E_xs := (E_xs.wr W5)
  have F_value_xs := ((F_value_xs.keep K1.1 nin0).other W5 (Or.inr (slot_ne (Or.inr (oW hw 18 rfl)) (Or.inr (oW hw 19 rfl)) (by decide) (t := (.array .byte)) (t' := .byte) (by decide) (by decide))))
  obtain ⟨T, h, X, e0, W6, st⟩ := putF X hx hZ hown (host := "") (Or.inl (oW hw 22 rfl)) Via.refl e0 F_value_xs E_xs (Or.inr ⟨(oW hw 18 rfl), rfl, hnm⟩) (oW hw 4 rfl) (ty := (.array .byte)) (by decide) rfl rfl (g := (mkF m 54 #[rv xs, rv xa, iv 0, iv 1, .val .null, rv nb1] [(.ref nb1), (.ref xs)])) rfl rfl (hb hby d2_54)
  have K := K.wr W6 (Or.inl (List.mem_of_getElem? (i := 0) rfl))
  have F_value_xs := F_value_xs.same W6
  refine oWk.to (mkF m 57 #[rv xs, rv xa, iv 0, iv 1, .val .null, rv nb1] []) (fun _ kt => st _ kt) ?_
  have E_xs := (E_xs.wr W6)
  have F_coder_xs := (F_coder_xs.other W6 (Or.inr (slot_ne (Or.inr (oW hw 19 rfl)) (Or.inr (oW hw 18 rfl)) (by decide) (t := .byte) (t' := (.array .byte)) (by decide) (by decide))))
  have V_nb1 := ((V_nb1.other W5 (Ne.symm ne_xs_nb1)).other W6 (Ne.symm ne_xs_nb1))
  exact oRetV X hx hlk hret (hb hby d2_57) (by rw [e0]; exact ⟨nb1, nk1, rfl, K, E_xs, F_coder_xs, F_value_xs, ge_nb1, V_nb1⟩) (by decide) (by decide)
def Q_rI1_1 (Z : State) (xs xa : Addr) (xk : ClassId) (xz : Int32) (xu xv : Value) (xc0 : Int32) (h0 : Heap) (v : Option Value) (h : Heap) (L : List Loc) : Prop := ∃ (nb : Addr) (nk : ClassId), v = none ∧ oKp h0 h [xs] L ∧ (Exa Z h xs Y0) ∧ (Fld Z h xs Y0 "coder" "B" (.int (0 : Int32))) ∧ (Fld Z h xs Y0 "value" "[B" (.ref nb)) ∧ (h0.size ≤ nb) ∧ (Arv Z h nb nk .byte (1 : Int32) [(ib xc0)] (.int (0 : Int32)))
theorem cs4 {a0 : Array Value} {Z : State} (hw : oHW a0 Z) : oCall Z Y0 (.invokespecial 27) yy3 jdk_42_method_149_code 6 none (oRi 4) := oCall.init rfl (oW hw 9 rfl) (oW hw 10 rfl) (oW hw 5 rfl) (oW hw 12 rfl) (by decide) pd_1
theorem rI1_1 (l : Launch) (Z : State) (a0 : Array Value) (hw : oHW a0 Z) (ws : List Jvm.Cond) (xs xa : Addr) (xk : ClassId) (xz : Int32) (xu xv : Value) (xc0 : Int32) (h0 : Heap) (O0 : Ext Z.heap h0) (S_COMPACT_STRINGS : Sta Z Z.heap Y0 Y6 "Z" (.int xz)) (hz : ¬ xz = (0 : Int32)) (og_xs : Z.heap.size ≤ xs) (E_xs : Exa Z h0 xs Y0) (F_value_xs : Fld Z h0 xs Y0 "value" "[B" xu) (F_coder_xs : Fld Z h0 xs Y0 "coder" "B" xv) (V_xa : Arv Z h0 xa xk .char (1 : Int32) [(.int xc0)] (.int (0 : Int32))) (hc0_ : ¬ (255 : Int32) < xc0) :
    oCon l Z yy4 jdk_42_method_3_code 2 none ws ({ frames := 3, cells := 1, slots := 1, locals := 52 } : Room) #[(.ref xs), (.ref xa)] h0 (Q_rI1_1 Z xs xa xk xz xu xv xc0 h0) := by
  refine oCon.of (plainFor_of_name pn_2) ?_
  intro p e s m below meth c T X hx hby hml hown hnm hret hlk hZ e0
  have hml : c.maxLocals = 2 := hml
  have K : oKp h0 h0 [xs] [] := oKp.nil _ _
  refine oWk.cast (g' := (mkF m 0 #[rv xs, rv xa] [])) (by first | rfl | (simp [entryFrame, mkF, argsToLocals, Value.category]; done)) ?_
  refine oWk.st (fun _ kt => zA X hx hby d1_0 rfl rfl rfl (zA X hx hby d1_1 rfl rfl rfl (zK X hx hby d1_2 rfl (zA X hx hby d1_3 rfl rfl rfl (oAl X hx hZ e0 V_xa hby d1_4 rfl rfl (XS.aconstNull X.here hx rfl (hb hby d1_5) kt)))))) ?_
  have lt_xs := E_xs.lt
  have lt_xa := V_xa.lt
  have Oh := K.old O0 (allS og_xs all0)
  obtain ⟨_, T, h, Lc3, X, e0, hQ, st⟩ := (cs4 hw).run X hx hZ hown e0 (A := [(.ref xs), (.ref xa), (.int (0 : Int32)), (.int (1 : Int32)), .null]) ⟨rfl, _, _, rfl⟩ (rI4_1 l Z a0 hw [] xs xa xk xz xu xv xc0 h0 Oh S_COMPACT_STRINGS hz og_xs E_xs F_value_xs F_coder_xs V_xa hc0_) (W := 0) (by decide) hml (Ls := #[rv xs, rv xa]) rfl (rest := []) rfl rfl hby d1_6
  obtain ⟨nb2, nk2, rfl, K2, E_xs, F_coder_xs, F_value_xs, gn_nb2, V_nb2⟩ := hQ
  have ge_nb2 := Nat.le_trans K.le gn_nb2
  have ne_xs_nb2 : xs ≠ nb2 := Nat.ne_of_lt (Nat.lt_of_lt_of_le lt_xs gn_nb2)
  have ne_xa_nb2 : xa ≠ nb2 := Nat.ne_of_lt (Nat.lt_of_lt_of_le lt_xa gn_nb2)
  have K := K.call K2 (allS (Or.inl (List.mem_of_getElem? (i := 0) rfl)) all0)
  refine oWk.to (mkF m 9 #[rv xs, rv xa] []) (fun _ kt => st _ kt) ?_
  exact oRetV X hx hlk hret (hb hby d1_9) (by rw [e0]; exact ⟨nb2, nk2, rfl, K, E_xs, F_coder_xs, F_value_xs, ge_nb2, V_nb2⟩) (by decide) (by decide)
def Q_rC5_2 (Z : State) (xa xd : Addr) (xk xl : ClassId) (xc0 xc1 : Int32) (h0 : Heap) (v : Option Value) (h : Heap) (L : List Loc) : Prop := v = some (.int (2 : Int32)) ∧ oKp h0 h [xd] L ∧ (Arv Z h xd xl .byte (2 : Int32) [(ib xc0), (ib xc1)] (.int (0 : Int32)))
theorem rC5_2 (l : Launch) (Z : State) (a0 : Array Value) (hw : oHW a0 Z) (ws : List Jvm.Cond) (xa xd : Addr) (xk xl : ClassId) (xc0 xc1 : Int32) (h0 : Heap) (O0 : Ext Z.heap h0) (og_xd : Z.heap.size ≤ xd) (ne_xa_xd : xa ≠ xd) (V_xa : Arv Z h0 xa xk .char (2 : Int32) [(.int xc0), (.int xc1)] (.int (0 : Int32))) (V_xd : Arv Z h0 xd xl .byte (2 : Int32) [(.int (0 : Int32)), (.int (0 : Int32))] (.int (0 : Int32))) (hc0_ : ¬ (255 : Int32) < xc0) (hc1_ : ¬ (255 : Int32) < xc1) :
    oCon l Z yy5 jdk_52_method_21_code 7 (some .int) ws ({ frames := 0, cells := 0, slots := 0, locals := 0 } : Room) #[(.ref xa), (.int (0 : Int32)), (.ref xd), (.int (0 : Int32)), (.int (2 : Int32))] h0 (Q_rC5_2 Z xa xd xk xl xc0 xc1 h0) := by
  refine oCon.of (plainFor_of_name pn_3) ?_
  intro p e s m below meth c T X hx hby hml hown hnm hret hlk hZ e0
  have hml : c.maxLocals = 7 := hml
  have K : oKp h0 h0 [xd] [] := oKp.nil _ _
  refine oWk.cast (g' := (mkF m 0 #[rv xa, iv 0, rv xd, iv 0, iv 2, uu, uu] [])) (by first | rfl | (simp [entryFrame, mkF, argsToLocals, Value.category]; done)) ?_
  refine oWk.to (mkF m 12 #[rv xa, iv 0, rv xd, iv 0, iv 2, iv 0, uu] [(.int 0), (.ref xa)]) (fun _ kt => zK X hx hby d8_0 rfl (zS X hx hby d8_1 rfl rfl (l' := #[rv xa, iv 0, rv xd, iv 0, iv 2, iv 0, uu]) rfl (zJ X hx hby d8_3 rfl rfl (zJ X hx hby d8_5 rfl rfl (zN X hx hby d8_7 rfl rfl (tlt (by decide)).2.1 (zA X hx hby d8_10 rfl rfl rfl (zI X hx hby d8_11 rfl rfl kt))))))) ?_
  refine oWk.to (mkF m 20 #[rv xa, iv 0, rv xd, iv 0, iv 2, iv 0, iv xc0] [(.int 255), (.int xc0)]) (fun _ kt => oLdC X hx hZ e0 V_xa (0 : Int32) (.int xc0) ⟨by decide, by decide⟩ rfl hby d8_12 rfl rfl (zS X hx hby d8_13 rfl rfl (l' := #[rv xa, iv 0, rv xd, iv 0, iv 2, iv 0, iv xc0]) rfl (zJ X hx hby d8_15 rfl rfl (zM X hx hby d8_17 rfl kt)))) ?_
  refine oWk.to (mkF m 31 #[rv xa, iv 0, rv xd, iv 0, iv 2, iv 0, iv xc0] [(ib xc0), (.int 0), (.ref xd)]) (fun _ kt => zY X hx hby d8_20 rfl rfl (flt hc0_).2.2.2 (pc' := 26) rfl (zA X hx hby d8_26 rfl rfl rfl (zI X hx hby d8_27 rfl rfl (zJ X hx hby d8_28 rfl rfl (XS.i2b X.here hx rfl (hb hby d8_30) rfl kt))))) ?_
  obtain ⟨cl2, Ar2, q2, Sz2, Nn2, Hs2, Ft2⟩ := id V_xd
  have hin2 : ¬ ((0 : Int32) < 0 ∨ cl2.slots.size ≤ ((0 : Int32)).toNatClampNeg) := inb_of Sz2 ⟨by decide, by decide⟩
  obtain ⟨T, h, X, e0, W2, st⟩ := stB X hx hZ e0 Ar2 (j := (0 : Int32)) hin2 (g := (mkF m 31 #[rv xa, iv 0, rv xd, iv 0, iv 2, iv 0, iv xc0] [(ib xc0), (.int 0), (.ref xd)])) rfl rfl (hb hby d8_31)
  have K := K.wr W2 (Or.inl (List.mem_of_getElem? (i := 0) rfl))
  have V_xd := Arv.set Ar2 q2 Sz2 Nn2 Hs2 Ft2 (fits_nar_byte _) W2 0 rfl (Nat.le_of_ble_eq_true rfl)
  rw [oB8 xc0] at V_xd
  replace V_xd : Arv Z h xd xl .byte (2 : Int32) [(ib xc0), (.int (0 : Int32))] (.int (0 : Int32)) := V_xd
  refine oWk.to (mkF m 7 #[rv xa, iv 1, rv xd, iv 1, iv 2, iv 1, iv xc0] [(.int 2), (.int 1)]) (fun _ kt => st _ (zC X hx hby d8_32 rfl rfl (l' := #[rv xa, iv ((0 : Int32) + (1 : Int32)), rv xd, iv 0, iv 2, iv 0, iv xc0]) rfl (zC X hx hby d8_35 rfl rfl (l' := #[rv xa, iv 1, rv xd, iv ((0 : Int32) + (1 : Int32)), iv 2, iv 0, iv xc0]) rfl (zC X hx hby d8_38 rfl rfl (l' := #[rv xa, iv 1, rv xd, iv 1, iv 2, iv ((0 : Int32) + (1 : Int32)), iv xc0]) rfl (zG X hx hby d8_41 rfl (pc' := 3) rfl (zJ X hx hby d8_3 rfl rfl (zJ X hx hby d8_5 rfl rfl kt))))))) ?_
  refine oWk.st (fun _ kt => zN X hx hby d8_7 rfl rfl (tlt (by decide)).2.1 (zA X hx hby d8_10 rfl rfl rfl (zI X hx hby d8_11 rfl rfl kt))) ?_
  have V_xa := (V_xa.other W2 ne_xa_xd)
  refine oWk.to (mkF m 20 #[rv xa, iv 1, rv xd, iv 1, iv 2, iv 1, iv xc1] [(.int 255), (.int xc1)]) (fun _ kt => oLdC X hx hZ e0 V_xa (1 : Int32) (.int xc1) ⟨by decide, by decide⟩ rfl hby d8_12 rfl rfl (zS X hx hby d8_13 rfl rfl (l' := #[rv xa, iv 1, rv xd, iv 1, iv 2, iv 1, iv xc1]) rfl (zJ X hx hby d8_15 rfl rfl (zM X hx hby d8_17 rfl kt)))) ?_
  refine oWk.to (mkF m 31 #[rv xa, iv 1, rv xd, iv 1, iv 2, iv 1, iv xc1] [(ib xc1), (.int 1), (.ref xd)]) (fun _ kt => zY X hx hby d8_20 rfl rfl (flt hc1_).2.2.2 (pc' := 26) rfl (zA X hx hby d8_26 rfl rfl rfl (zI X hx hby d8_27 rfl rfl (zJ X hx hby d8_28 rfl rfl (XS.i2b X.here hx rfl (hb hby d8_30) rfl kt))))) ?_
  obtain ⟨cl4, Ar4, q4, Sz4, Nn4, Hs4, Ft4⟩ := id V_xd
  have hin4 : ¬ ((1 : Int32) < 0 ∨ cl4.slots.size ≤ ((1 : Int32)).toNatClampNeg) := inb_of Sz4 ⟨by decide, by decide⟩
  obtain ⟨T, h, X, e0, W4, st⟩ := stB X hx hZ e0 Ar4 (j := (1 : Int32)) hin4 (g := (mkF m 31 #[rv xa, iv 1, rv xd, iv 1, iv 2, iv 1, iv xc1] [(ib xc1), (.int 1), (.ref xd)])) rfl rfl (hb hby d8_31)
  have K := K.wr W4 (Or.inl (List.mem_of_getElem? (i := 0) rfl))
  have V_xd := Arv.set Ar4 q4 Sz4 Nn4 Hs4 Ft4 (fits_nar_byte _) W4 1 rfl (Nat.le_of_ble_eq_true rfl)
  rw [oB8 xc1] at V_xd
  replace V_xd : Arv Z h xd xl .byte (2 : Int32) [(ib xc0), (ib xc1)] (.int (0 : Int32)) := V_xd
  refine oWk.to (mkF m 7 #[rv xa, iv 2, rv xd, iv 2, iv 2, iv 2, iv xc1] [(.int 2), (.int 2)]) (fun _ kt => st _ (zC X hx hby d8_32 rfl rfl (l' := #[rv xa, iv ((1 : Int32) + (1 : Int32)), rv xd, iv 1, iv 2, iv 1, iv xc1]) rfl (zC X hx hby d8_35 rfl rfl (l' := #[rv xa, iv 2, rv xd, iv ((1 : Int32) + (1 : Int32)), iv 2, iv 1, iv xc1]) rfl (zC X hx hby d8_38 rfl rfl (l' := #[rv xa, iv 2, rv xd, iv 2, iv 2, iv ((1 : Int32) + (1 : Int32)), iv xc1]) rfl (zG X hx hby d8_41 rfl (pc' := 3) rfl (zJ X hx hby d8_3 rfl rfl (zJ X hx hby d8_5 rfl rfl kt))))))) ?_
  refine oWk.to (mkF m 46 #[rv xa, iv 2, rv xd, iv 2, iv 2, iv 2, iv xc1] [(.int 2)]) (fun _ kt => zY X hx hby d8_7 rfl rfl (flt (by decide)).2.1 (pc' := 44) rfl (zJ X hx hby d8_44 rfl rfl kt)) ?_
  exact oRetI X hx hlk hret (hb hby d8_46) (by rw [e0]; exact ⟨rfl, K, V_xd⟩) (by decide) (by decide)
def Q_rC3_2 (Z : State) (xa : Addr) (xk : ClassId) (xc0 xc1 : Int32) (h0 : Heap) (v : Option Value) (h : Heap) (L : List Loc) : Prop := ∃ (nb : Addr) (nk : ClassId), v = some (.ref nb) ∧ oKp h0 h [] L ∧ (h0.size ≤ nb) ∧ (Arv Z h nb nk .byte (2 : Int32) [(ib xc0), (ib xc1)] (.int (0 : Int32)))
theorem rC3_2 (l : Launch) (Z : State) (a0 : Array Value) (hw : oHW a0 Z) (ws : List Jvm.Cond) (xa : Addr) (xk : ClassId) (xc0 xc1 : Int32) (h0 : Heap) (O0 : Ext Z.heap h0) (V_xa : Arv Z h0 xa xk .char (2 : Int32) [(.int xc0), (.int xc1)] (.int (0 : Int32))) (hc0_ : ¬ (255 : Int32) < xc0) (hc1_ : ¬ (255 : Int32) < xc1) :
    oCon l Z yy6 jdk_52_method_16_code 6 (some (.array .byte)) ws ({ frames := 1, cells := 1, slots := 2, locals := 18 } : Room) #[(.ref xa), (.int (0 : Int32)), (.int (2 : Int32))] h0 (Q_rC3_2 Z xa xk xc0 xc1 h0) := by
  refine oCon.of (plainFor_of_name pn_3) ?_
  intro p e s m below meth c T X hx hby hml hown hnm hret hlk hZ e0
  have hml : c.maxLocals = 6 := hml
  have K : oKp h0 h0 [] [] := oKp.nil _ _
  refine oWk.cast (g' := (mkF m 0 #[rv xa, iv 0, iv 2, uu, uu, uu] [])) (by first | rfl | (simp [entryFrame, mkF, argsToLocals, Value.category]; done)) ?_
  refine oWk.st (fun _ kt => zI X hx hby d7_0 rfl rfl kt) ?_
  obtain ⟨o1, g1⟩ : ∃ z, z = h0.size := ⟨_, rfl⟩
  have ne_xa_o1 : xa ≠ o1 := Nat.ne_of_lt (Nat.lt_of_lt_of_le V_xa.lt (Nat.le_of_eq g1.symm))
  have ge_o1 : h0.size ≤ o1 := Nat.le_trans K.le (Nat.le_of_eq g1.symm)
  obtain ⟨T, h, k1, X, e0, E1, A1, st⟩ := newP X hx hZ (oW hw 17 rfl) e0 (g := (mkF m 1 #[rv xa, iv 0, iv 2, uu, uu, uu] [(.int 2)])) rfl (hb hby d7_1) rfl (by decide) (cap := 2) (by decide) (by decide) (by decide) (by decide)
  rw [← g1] at A1 st
  have K := K.ext E1
  have V_o1 : Arv Z h o1 k1 .byte (2 : Int32) [(.int (0 : Int32)), (.int (0 : Int32))] (.int (0 : Int32)) := (Arv.new A1 (by decide)).pad (pad_rep [] (.int (0 : Int32)) 2)
  refine oWk.to (mkF m 9 #[rv xa, iv 0, iv 2, rv o1, uu, uu] [(.int 2), (.int 0), (.ref o1), (.int 0), (.ref xa)]) (fun _ kt => st _ (zTn X hx hby d7_3 rfl rfl rfl (l' := #[rv xa, iv 0, iv 2, rv o1, uu, uu]) rfl (zA X hx hby d7_4 rfl rfl rfl (zI X hx hby d7_5 rfl rfl (zA X hx hby d7_6 rfl rfl rfl (zK X hx hby d7_7 rfl (zI X hx hby d7_8 rfl rfl kt))))))) ?_
  have V_xa := (V_xa.ext E1)
  have Oh := K.old O0 all0
  obtain ⟨_, T, h, Lc3, X, e0, hQ, st⟩ := (cs1 hw).run X hx hZ hown e0 (A := [(.ref xa), (.int (0 : Int32)), (.ref o1), (.int (0 : Int32)), (.int (2 : Int32))]) rfl (rC5_2 l Z a0 hw [] xa o1 xk k1 xc0 xc1 h Oh (Nat.le_trans O0.1 ge_o1) ne_xa_o1 V_xa V_o1 hc0_ hc1_) (W := 0) (by decide) hml (Ls := #[rv xa, iv 0, iv 2, rv o1, uu, uu]) rfl (rest := []) rfl rfl hby d7_9
  obtain ⟨rfl, K2, V_o1⟩ := hQ
  have K := K.call K2 (allS (Or.inr ge_o1) all0)
  refine oWk.to (mkF m 58 #[rv xa, iv 0, iv 2, rv o1, iv 2, uu] [(.ref o1)]) (fun _ kt => st _ (zS X hx hby d7_12 rfl rfl (l' := #[rv xa, iv 0, iv 2, rv o1, iv 2, uu]) rfl (zJ X hx hby d7_14 rfl rfl (zI X hx hby d7_16 rfl rfl (zY X hx hby d7_17 rfl rfl (teq (by decide)).1 (pc' := 57) rfl (zA X hx hby d7_57 rfl rfl rfl kt)))))) ?_
  exact oRetA X hx hlk hret rfl rfl (hb hby d7_58) (by rw [e0]; exact ⟨o1, k1, rfl, K, ge_o1, V_o1⟩) (by decide) (by decide)
def Q_rCo_2 (Z : State) (xb : Addr) (xk : ClassId) (xy0 xy1 : Int32) (h0 : Heap) (v : Option Value) (h : Heap) (L : List Loc) : Prop := v = some (.int (0 : Int32)) ∧ h = h0 ∧ oKp h0 h [] L
theorem rCo_2 (l : Launch) (Z : State) (a0 : Array Value) (hw : oHW a0 Z) (ws : List Jvm.Cond) (xb : Addr) (xk : ClassId) (xy0 xy1 : Int32) (h0 : Heap) (O0 : Ext Z.heap h0) (V_xb : Arv Z h0 xb xk .byte (2 : Int32) [(.int xy0), (.int xy1)] (.int (0 : Int32))) :
    oCon l Z yy7 jdk_52_method_15_code 2 (some .byte) ws ({ frames := 0, cells := 0, slots := 0, locals := 0 } : Room) #[(.ref xb), (.int (2 : Int32))] h0 (Q_rCo_2 Z xb xk xy0 xy1 h0) := by
  refine oCon.of (plainFor_of_name pn_3) ?_
  intro p e s m below meth c T X hx hby hml hown hnm hret hlk hZ e0
  have hml : c.maxLocals = 2 := hml
  have K : oKp h0 h0 [] [] := oKp.nil _ _
  refine oWk.cast (g' := (mkF m 0 #[rv xb, iv 2] [])) (by first | rfl | (simp [entryFrame, mkF, argsToLocals, Value.category]; done)) ?_
  refine oWk.to (mkF m 8 #[rv xb, iv 2] [(.int 0)]) (fun _ kt => zI X hx hby d9_0 rfl rfl (zA X hx hby d9_1 rfl rfl rfl (oAl X hx hZ e0 V_xb hby d9_2 rfl rfl (XS.isub X.here hx rfl (hb hby d9_3) rfl (zL X hx hby d9_4 rfl (XS.iushr X.here hx rfl (hb hby d9_6) rfl (XS.i2b X.here hx rfl (hb hby d9_7) rfl kt))))))) ?_
  exact oRetN X hx hlk hret (Or.inl rfl) rfl (hb hby d9_8) (by rw [e0]; exact ⟨rfl, rfl, K⟩) (by decide) (by decide)
def Q_rI4_2 (Z : State) (xs xa : Addr) (xk : ClassId) (xz : Int32) (xu xv : Value) (xc0 xc1 : Int32) (h0 : Heap) (v : Option Value) (h : Heap) (L : List Loc) : Prop := ∃ (nb : Addr) (nk : ClassId), v = none ∧ oKp h0 h [xs] L ∧ (Exa Z h xs Y0) ∧ (Fld Z h xs Y0 "coder" "B" (.int (0 : Int32))) ∧ (Fld Z h xs Y0 "value" "[B" (.ref nb)) ∧ (h0.size ≤ nb) ∧ (Arv Z h nb nk .byte (2 : Int32) [(ib xc0), (ib xc1)] (.int (0 : Int32)))
theorem rI4_2 (l : Launch) (Z : State) (a0 : Array Value) (hw : oHW a0 Z) (ws : List Jvm.Cond) (xs xa : Addr) (xk : ClassId) (xz : Int32) (xu xv : Value) (xc0 xc1 : Int32) (h0 : Heap) (O0 : Ext Z.heap h0) (S_COMPACT_STRINGS : Sta Z Z.heap Y0 Y6 "Z" (.int xz)) (hz : ¬ xz = (0 : Int32)) (og_xs : Z.heap.size ≤ xs) (E_xs : Exa Z h0 xs Y0) (F_value_xs : Fld Z h0 xs Y0 "value" "[B" xu) (F_coder_xs : Fld Z h0 xs Y0 "coder" "B" xv) (V_xa : Arv Z h0 xa xk .char (2 : Int32) [(.int xc0), (.int xc1)] (.int (0 : Int32))) (hc0_ : ¬ (255 : Int32) < xc0) (hc1_ : ¬ (255 : Int32) < xc1) :
    oCon l Z yy3 jdk_42_method_149_code 6 none ws ({ frames := 2, cells := 1, slots := 2, locals := 35 } : Room) #[(.ref xs), (.ref xa), (.int (0 : Int32)), (.int (2 : Int32)), .null] h0 (Q_rI4_2 Z xs xa xk xz xu xv xc0 xc1 h0) := by
  refine oCon.of (plainFor_of_name pn_2) ?_
  intro p e s m below meth c T X hx hby hml hown hnm hret hlk hZ e0
  have hml : c.maxLocals = 6 := hml
  have K : oKp h0 h0 [xs] [] := oKp.nil _ _
  refine oWk.cast (g' := (mkF m 0 #[rv xs, rv xa, iv 0, iv 2, .val .null, uu] [])) (by first | rfl | (simp [entryFrame, mkF, argsToLocals, Value.category]; done)) ?_
  refine oWk.st (fun _ kt => zA X hx hby d2_0 rfl rfl rfl kt) ?_
  obtain ⟨T, X, e0, st⟩ := initO X hx hZ hown (oW hw 13 rfl) (oW hw 14 rfl) (oW hw 15 rfl) e0 (g := (mkF m 1 #[rv xs, rv xa, iv 0, iv 2, .val .null, uu] [(.ref xs)])) rfl (by rw [hml]; rfl) rfl (hb hby d2_1) (by decide) (W := 0) (Nat.le_of_eq rfl) (by decide)
  refine oWk.st (fun _ kt => st _ (zI X hx hby d2_4 rfl rfl (zF X hx hby d2_5 rfl rfl ((if0 _ _).trans (feq (by decide)).2) (pc' := 27) rfl kt))) ?_
  have Oh := K.old O0 (allS og_xs all0)
  obtain ⟨T, X, e0, st⟩ := getS2 X hx hZ hown (host := "") (Or.inl (oW hw 37 rfl)) Via.refl e0 (S_COMPACT_STRINGS.ext Oh) (g := (mkF m 27 #[rv xs, rv xa, iv 0, iv 2, .val .null, uu] [])) rfl (hb hby d2_27)
  refine oWk.st (fun _ kt => st _ (zH X hx hby d2_30 rfl rfl ((if0 _ _).trans (feq hz).1) (zA X hx hby d2_33 rfl rfl rfl (zI X hx hby d2_34 rfl rfl (zI X hx hby d2_35 rfl rfl kt))))) ?_
  have lt_xs := E_xs.lt
  have lt_xa := V_xa.lt
  obtain ⟨_, T, h, Lc2, X, e0, hQ, st⟩ := (cs2 hw).run X hx hZ hown e0 (A := [(.ref xa), (.int (0 : Int32)), (.int (2 : Int32))]) rfl (rC3_2 l Z a0 hw [] xa xk xc0 xc1 h0 Oh V_xa hc0_ hc1_) (W := 0) (by decide) hml (Ls := #[rv xs, rv xa, iv 0, iv 2, .val .null, uu]) rfl (rest := []) rfl rfl hby d2_36
  obtain ⟨nb1, nk1, rfl, K1, gn_nb1, V_nb1⟩ := hQ
  have ge_nb1 := Nat.le_trans K.le gn_nb1
  have ne_xs_nb1 : xs ≠ nb1 := Nat.ne_of_lt (Nat.lt_of_lt_of_le lt_xs gn_nb1)
  have ne_xa_nb1 : xa ≠ nb1 := Nat.ne_of_lt (Nat.lt_of_lt_of_le lt_xa gn_nb1)
  have K := K.call K1 all0
  refine oWk.st (fun _ kt => st _ (zT X hx hby d2_39 rfl rfl rfl (l' := #[rv xs, rv xa, iv 0, iv 2, .val .null, rv nb1]) rfl (zA X hx hby d2_41 rfl rfl rfl (zB X hx hby d2_42 rfl rfl rfl (zI X hx hby d2_44 rfl rfl kt))))) ?_
  have Oh := K.old O0 (allS og_xs all0)
  obtain ⟨T, L4, X, e0, K, st⟩ := (cs3 hw).pure X hx hZ hown e0 K (A := [(.ref nb1), (.int (2 : Int32))]) rfl (rCo_2 l Z a0 hw [] nb1 nk1 (xc0.toInt8.toInt32) (xc1.toInt8.toInt32) h Oh V_nb1) (fun _ _ _ q => q) (W := 1) (by decide) hml (Ls := #[rv xs, rv xa, iv 0, iv 2, .val .null, rv nb1]) rfl (rest := [(.ref xs)]) rfl rfl hby d2_45
  refine oWk.st (fun _ kt => st _ kt) ?_
  have E_xs := (E_xs.keep K1.1)
  have F_coder_xs := (F_coder_xs.keep K1.1 nin0)
  obtain ⟨T, h, X, e0, W5, st⟩ := putFN X hx hZ hown (oW hw 23 rfl) Via.refl e0 F_coder_xs E_xs (Or.inr ⟨(oW hw 19 rfl), rfl, hnm⟩) (oW hw 4 rfl) (ty := .byte) (v' := .int (0 : Int32)) (by decide) rfl (by decide) (g := (mkF m 48 #[rv xs, rv xa, iv 0, iv 2, .val .null, rv nb1] [(.int 0), (.ref xs)])) rfl rfl (hb hby d2_48)
  have K := K.wr W5 (Or.inl (List.mem_of_getElem? (i := 0) rfl))
  have F_coder_xs := F_coder_xs.same W5
  refine oWk.st (fun _ kt => st _ (zA X hx hby d2_51 rfl rfl rfl (zB X hx hby d2_52 rfl rfl rfl kt))) ?_
  have E_xs := (E_xs.wr W5)
  have F_value_xs := ((F_value_xs.keep K1.1 nin0).other W5 (Or.inr (slot_ne (Or.inr (oW hw 18 rfl)) (Or.inr (oW hw 19 rfl)) (by decide) (t := (.array .byte)) (t' := .byte) (by decide) (by decide))))
  obtain ⟨T, h, X, e0, W6, st⟩ := putF X hx hZ hown (host := "") (Or.inl (oW hw 22 rfl)) Via.refl e0 F_value_xs E_xs (Or.inr ⟨(oW hw 18 rfl), rfl, hnm⟩) (oW hw 4 rfl) (ty := (.array .byte)) (by decide) rfl rfl (g := (mkF m 54 #[rv xs, rv xa, iv 0, iv 2, .val .null, rv nb1] [(.ref nb1), (.ref xs)])) rfl rfl (hb hby d2_54)
  have K := K.wr W6 (Or.inl (List.mem_of_getElem? (i := 0) rfl))
  have F_value_xs := F_value_xs.same W6
  refine oWk.to (mkF m 57 #[rv xs, rv xa, iv 0, iv 2, .val .null, rv nb1] []) (fun _ kt => st _ kt) ?_
  have E_xs := (E_xs.wr W6)
  have F_coder_xs := (F_coder_xs.other W6 (Or.inr (slot_ne (Or.inr (oW hw 19 rfl)) (Or.inr (oW hw 18 rfl)) (by decide) (t := .byte) (t' := (.array .byte)) (by decide) (by decide))))
  have V_nb1 := ((V_nb1.other W5 (Ne.symm ne_xs_nb1)).other W6 (Ne.symm ne_xs_nb1))
  exact oRetV X hx hlk hret (hb hby d2_57) (by rw [e0]; exact ⟨nb1, nk1, rfl, K, E_xs, F_coder_xs, F_value_xs, ge_nb1, V_nb1⟩) (by decide) (by decide)
def Q_rI1_2 (Z : State) (xs xa : Addr) (xk : ClassId) (xz : Int32) (xu xv : Value) (xc0 xc1 : Int32) (h0 : Heap) (v : Option Value) (h : Heap) (L : List Loc) : Prop := ∃ (nb : Addr) (nk : ClassId), v = none ∧ oKp h0 h [xs] L ∧ (Exa Z h xs Y0) ∧ (Fld Z h xs Y0 "coder" "B" (.int (0 : Int32))) ∧ (Fld Z h xs Y0 "value" "[B" (.ref nb)) ∧ (h0.size ≤ nb) ∧ (Arv Z h nb nk .byte (2 : Int32) [(ib xc0), (ib xc1)] (.int (0 : Int32)))
theorem rI1_2 (l : Launch) (Z : State) (a0 : Array Value) (hw : oHW a0 Z) (ws : List Jvm.Cond) (xs xa : Addr) (xk : ClassId) (xz : Int32) (xu xv : Value) (xc0 xc1 : Int32) (h0 : Heap) (O0 : Ext Z.heap h0) (S_COMPACT_STRINGS : Sta Z Z.heap Y0 Y6 "Z" (.int xz)) (hz : ¬ xz = (0 : Int32)) (og_xs : Z.heap.size ≤ xs) (E_xs : Exa Z h0 xs Y0) (F_value_xs : Fld Z h0 xs Y0 "value" "[B" xu) (F_coder_xs : Fld Z h0 xs Y0 "coder" "B" xv) (V_xa : Arv Z h0 xa xk .char (2 : Int32) [(.int xc0), (.int xc1)] (.int (0 : Int32))) (hc0_ : ¬ (255 : Int32) < xc0) (hc1_ : ¬ (255 : Int32) < xc1) :
    oCon l Z yy4 jdk_42_method_3_code 2 none ws ({ frames := 3, cells := 1, slots := 2, locals := 52 } : Room) #[(.ref xs), (.ref xa)] h0 (Q_rI1_2 Z xs xa xk xz xu xv xc0 xc1 h0) := by
  refine oCon.of (plainFor_of_name pn_2) ?_
  intro p e s m below meth c T X hx hby hml hown hnm hret hlk hZ e0
  have hml : c.maxLocals = 2 := hml
  have K : oKp h0 h0 [xs] [] := oKp.nil _ _
  refine oWk.cast (g' := (mkF m 0 #[rv xs, rv xa] [])) (by first | rfl | (simp [entryFrame, mkF, argsToLocals, Value.category]; done)) ?_
  refine oWk.st (fun _ kt => zA X hx hby d1_0 rfl rfl rfl (zA X hx hby d1_1 rfl rfl rfl (zK X hx hby d1_2 rfl (zA X hx hby d1_3 rfl rfl rfl (oAl X hx hZ e0 V_xa hby d1_4 rfl rfl (XS.aconstNull X.here hx rfl (hb hby d1_5) kt)))))) ?_
  have lt_xs := E_xs.lt
  have lt_xa := V_xa.lt
  have Oh := K.old O0 (allS og_xs all0)
  obtain ⟨_, T, h, Lc3, X, e0, hQ, st⟩ := (cs4 hw).run X hx hZ hown e0 (A := [(.ref xs), (.ref xa), (.int (0 : Int32)), (.int (2 : Int32)), .null]) ⟨rfl, _, _, rfl⟩ (rI4_2 l Z a0 hw [] xs xa xk xz xu xv xc0 xc1 h0 Oh S_COMPACT_STRINGS hz og_xs E_xs F_value_xs F_coder_xs V_xa hc0_ hc1_) (W := 0) (by decide) hml (Ls := #[rv xs, rv xa]) rfl (rest := []) rfl rfl hby d1_6
  obtain ⟨nb2, nk2, rfl, K2, E_xs, F_coder_xs, F_value_xs, gn_nb2, V_nb2⟩ := hQ
  have ge_nb2 := Nat.le_trans K.le gn_nb2
  have ne_xs_nb2 : xs ≠ nb2 := Nat.ne_of_lt (Nat.lt_of_lt_of_le lt_xs gn_nb2)
  have ne_xa_nb2 : xa ≠ nb2 := Nat.ne_of_lt (Nat.lt_of_lt_of_le lt_xa gn_nb2)
  have K := K.call K2 (allS (Or.inl (List.mem_of_getElem? (i := 0) rfl)) all0)
  refine oWk.to (mkF m 9 #[rv xs, rv xa] []) (fun _ kt => st _ kt) ?_
  exact oRetV X hx hlk hret (hb hby d1_9) (by rw [e0]; exact ⟨nb2, nk2, rfl, K, E_xs, F_coder_xs, F_value_xs, ge_nb2, V_nb2⟩) (by decide) (by decide)
def Q_rC5_3 (Z : State) (xa xd : Addr) (xk xl : ClassId) (xc0 xc1 xc2 : Int32) (h0 : Heap) (v : Option Value) (h : Heap) (L : List Loc) : Prop := v = some (.int (3 : Int32)) ∧ oKp h0 h [xd] L ∧ (Arv Z h xd xl .byte (3 : Int32) [(ib xc0), (ib xc1), (ib xc2)] (.int (0 : Int32)))
theorem rC5_3 (l : Launch) (Z : State) (a0 : Array Value) (hw : oHW a0 Z) (ws : List Jvm.Cond) (xa xd : Addr) (xk xl : ClassId) (xc0 xc1 xc2 : Int32) (h0 : Heap) (O0 : Ext Z.heap h0) (og_xd : Z.heap.size ≤ xd) (ne_xa_xd : xa ≠ xd) (V_xa : Arv Z h0 xa xk .char (3 : Int32) [(.int xc0), (.int xc1), (.int xc2)] (.int (0 : Int32))) (V_xd : Arv Z h0 xd xl .byte (3 : Int32) [(.int (0 : Int32)), (.int (0 : Int32)), (.int (0 : Int32))] (.int (0 : Int32))) (hc0_ : ¬ (255 : Int32) < xc0) (hc1_ : ¬ (255 : Int32) < xc1) (hc2_ : ¬ (255 : Int32) < xc2) :
    oCon l Z yy5 jdk_52_method_21_code 7 (some .int) ws ({ frames := 0, cells := 0, slots := 0, locals := 0 } : Room) #[(.ref xa), (.int (0 : Int32)), (.ref xd), (.int (0 : Int32)), (.int (3 : Int32))] h0 (Q_rC5_3 Z xa xd xk xl xc0 xc1 xc2 h0) := by
  refine oCon.of (plainFor_of_name pn_3) ?_
  intro p e s m below meth c T X hx hby hml hown hnm hret hlk hZ e0
  have hml : c.maxLocals = 7 := hml
  have K : oKp h0 h0 [xd] [] := oKp.nil _ _
  refine oWk.cast (g' := (mkF m 0 #[rv xa, iv 0, rv xd, iv 0, iv 3, uu, uu] [])) (by first | rfl | (simp [entryFrame, mkF, argsToLocals, Value.category]; done)) ?_
  refine oWk.to (mkF m 12 #[rv xa, iv 0, rv xd, iv 0, iv 3, iv 0, uu] [(.int 0), (.ref xa)]) (fun _ kt => zK X hx hby d8_0 rfl (zS X hx hby d8_1 rfl rfl (l' := #[rv xa, iv 0, rv xd, iv 0, iv 3, iv 0, uu]) rfl (zJ X hx hby d8_3 rfl rfl (zJ X hx hby d8_5 rfl rfl (zN X hx hby d8_7 rfl rfl (tlt (by decide)).2.1 (zA X hx hby d8_10 rfl rfl rfl (zI X hx hby d8_11 rfl rfl kt))))))) ?_
  refine oWk.to (mkF m 20 #[rv xa, iv 0, rv xd, iv 0, iv 3, iv 0, iv xc0] [(.int 255), (.int xc0)]) (fun _ kt => oLdC X hx hZ e0 V_xa (0 : Int32) (.int xc0) ⟨by decide, by decide⟩ rfl hby d8_12 rfl rfl (zS X hx hby d8_13 rfl rfl (l' := #[rv xa, iv 0, rv xd, iv 0, iv 3, iv 0, iv xc0]) rfl (zJ X hx hby d8_15 rfl rfl (zM X hx hby d8_17 rfl kt)))) ?_
  refine oWk.to (mkF m 31 #[rv xa, iv 0, rv xd, iv 0, iv 3, iv 0, iv xc0] [(ib xc0), (.int 0), (.ref xd)]) (fun _ kt => zY X hx hby d8_20 rfl rfl (flt hc0_).2.2.2 (pc' := 26) rfl (zA X hx hby d8_26 rfl rfl rfl (zI X hx hby d8_27 rfl rfl (zJ X hx hby d8_28 rfl rfl (XS.i2b X.here hx rfl (hb hby d8_30) rfl kt))))) ?_
  obtain ⟨cl2, Ar2, q2, Sz2, Nn2, Hs2, Ft2⟩ := id V_xd
  have hin2 : ¬ ((0 : Int32) < 0 ∨ cl2.slots.size ≤ ((0 : Int32)).toNatClampNeg) := inb_of Sz2 ⟨by decide, by decide⟩
  obtain ⟨T, h, X, e0, W2, st⟩ := stB X hx hZ e0 Ar2 (j := (0 : Int32)) hin2 (g := (mkF m 31 #[rv xa, iv 0, rv xd, iv 0, iv 3, iv 0, iv xc0] [(ib xc0), (.int 0), (.ref xd)])) rfl rfl (hb hby d8_31)
  have K := K.wr W2 (Or.inl (List.mem_of_getElem? (i := 0) rfl))
  have V_xd := Arv.set Ar2 q2 Sz2 Nn2 Hs2 Ft2 (fits_nar_byte _) W2 0 rfl (Nat.le_of_ble_eq_true rfl)
  rw [oB8 xc0] at V_xd
  replace V_xd : Arv Z h xd xl .byte (3 : Int32) [(ib xc0), (.int (0 : Int32)), (.int (0 : Int32))] (.int (0 : Int32)) := V_xd
  refine oWk.to (mkF m 7 #[rv xa, iv 1, rv xd, iv 1, iv 3, iv 1, iv xc0] [(.int 3), (.int 1)]) (fun _ kt => st _ (zC X hx hby d8_32 rfl rfl (l' := #[rv xa, iv ((0 : Int32) + (1 : Int32)), rv xd, iv 0, iv 3, iv 0, iv xc0]) rfl (zC X hx hby d8_35 rfl rfl (l' := #[rv xa, iv 1, rv xd, iv ((0 : Int32) + (1 : Int32)), iv 3, iv 0, iv xc0]) rfl (zC X hx hby d8_38 rfl rfl (l' := #[rv xa, iv 1, rv xd, iv 1, iv 3, iv ((0 : Int32) + (1 : Int32)), iv xc0]) rfl (zG X hx hby d8_41 rfl (pc' := 3) rfl (zJ X hx hby d8_3 rfl rfl (zJ X hx hby d8_5 rfl rfl kt))))))) ?_
  refine oWk.st (fun _ kt => zN X hx hby d8_7 rfl rfl (tlt (by decide)).2.1 (zA X hx hby d8_10 rfl rfl rfl (zI X hx hby d8_11 rfl rfl kt))) ?_
  have V_xa := (V_xa.other W2 ne_xa_xd)
  refine oWk.to (mkF m 20 #[rv xa, iv 1, rv xd, iv 1, iv 3, iv 1, iv xc1] [(.int 255), (.int xc1)]) (fun _ kt => oLdC X hx hZ e0 V_xa (1 : Int32) (.int xc1) ⟨by decide, by decide⟩ rfl hby d8_12 rfl rfl (zS X hx hby d8_13 rfl rfl (l' := #[rv xa, iv 1, rv xd, iv 1, iv 3, iv 1, iv xc1]) rfl (zJ X hx hby d8_15 rfl rfl (zM X hx hby d8_17 rfl kt)))) ?_
  refine oWk.to (mkF m 31 #[rv xa, iv 1, rv xd, iv 1, iv 3, iv 1, iv xc1] [(ib xc1), (.int 1), (.ref xd)]) (fun _ kt => zY X hx hby d8_20 rfl rfl (flt hc1_).2.2.2 (pc' := 26) rfl (zA X hx hby d8_26 rfl rfl rfl (zI X hx hby d8_27 rfl rfl (zJ X hx hby d8_28 rfl rfl (XS.i2b X.here hx rfl (hb hby d8_30) rfl kt))))) ?_
  obtain ⟨cl4, Ar4, q4, Sz4, Nn4, Hs4, Ft4⟩ := id V_xd
  have hin4 : ¬ ((1 : Int32) < 0 ∨ cl4.slots.size ≤ ((1 : Int32)).toNatClampNeg) := inb_of Sz4 ⟨by decide, by decide⟩
  obtain ⟨T, h, X, e0, W4, st⟩ := stB X hx hZ e0 Ar4 (j := (1 : Int32)) hin4 (g := (mkF m 31 #[rv xa, iv 1, rv xd, iv 1, iv 3, iv 1, iv xc1] [(ib xc1), (.int 1), (.ref xd)])) rfl rfl (hb hby d8_31)
  have K := K.wr W4 (Or.inl (List.mem_of_getElem? (i := 0) rfl))
  have V_xd := Arv.set Ar4 q4 Sz4 Nn4 Hs4 Ft4 (fits_nar_byte _) W4 1 rfl (Nat.le_of_ble_eq_true rfl)
  rw [oB8 xc1] at V_xd
  replace V_xd : Arv Z h xd xl .byte (3 : Int32) [(ib xc0), (ib xc1), (.int (0 : Int32))] (.int (0 : Int32)) := V_xd
  refine oWk.to (mkF m 7 #[rv xa, iv 2, rv xd, iv 2, iv 3, iv 2, iv xc1] [(.int 3), (.int 2)]) (fun _ kt => st _ (zC X hx hby d8_32 rfl rfl (l' := #[rv xa, iv ((1 : Int32) + (1 : Int32)), rv xd, iv 1, iv 3, iv 1, iv xc1]) rfl (zC X hx hby d8_35 rfl rfl (l' := #[rv xa, iv 2, rv xd, iv ((1 : Int32) + (1 : Int32)), iv 3, iv 1, iv xc1]) rfl (zC X hx hby d8_38 rfl rfl (l' := #[rv xa, iv 2, rv xd, iv 2, iv 3, iv ((1 : Int32) + (1 : Int32)), iv xc1]) rfl (zG X hx hby d8_41 rfl (pc' := 3) rfl (zJ X hx hby d8_3 rfl rfl (zJ X hx hby d8_5 rfl rfl kt))))))) ?_
  refine oWk.st (fun _ kt => zN X hx hby d8_7 rfl rfl (tlt (by decide)).2.1 (zA X hx hby d8_10 rfl rfl rfl (zI X hx hby d8_11 rfl rfl kt))) ?_
  have V_xa := (V_xa.other W4 ne_xa_xd)
  refine oWk.to (mkF m 20 #[rv xa, iv 2, rv xd, iv 2, iv 3, iv 2, iv xc2] [(.int 255), (.int xc2)]) (fun _ kt => oLdC X hx hZ e0 V_xa (2 : Int32) (.int xc2) ⟨by decide, by decide⟩ rfl hby d8_12 rfl rfl (zS X hx hby d8_13 rfl rfl (l' := #[rv xa, iv 2, rv xd, iv 2, iv 3, iv 2, iv xc2]) rfl (zJ X hx hby d8_15 rfl rfl (zM X hx hby d8_17 rfl kt)))) ?_
  refine oWk.to (mkF m 31 #[rv xa, iv 2, rv xd, iv 2, iv 3, iv 2, iv xc2] [(ib xc2), (.int 2), (.ref xd)]) (fun _ kt => zY X hx hby d8_20 rfl rfl (flt hc2_).2.2.2 (pc' := 26) rfl (zA X hx hby d8_26 rfl rfl rfl (zI X hx hby d8_27 rfl rfl (zJ X hx hby d8_28 rfl rfl (XS.i2b X.here hx rfl (hb hby d8_30) rfl kt))))) ?_
  obtain ⟨cl6, Ar6, q6, Sz6, Nn6, Hs6, Ft6⟩ := id V_xd
  have hin6 : ¬ ((2 : Int32) < 0 ∨ cl6.slots.size ≤ ((2 : Int32)).toNatClampNeg) := inb_of Sz6 ⟨by decide, by decide⟩
  obtain ⟨T, h, X, e0, W6, st⟩ := stB X hx hZ e0 Ar6 (j := (2 : Int32)) hin6 (g := (mkF m 31 #[rv xa, iv 2, rv xd, iv 2, iv 3, iv 2, iv xc2] [(ib xc2), (.int 2), (.ref xd)])) rfl rfl (hb hby d8_31)
  have K := K.wr W6 (Or.inl (List.mem_of_getElem? (i := 0) rfl))
  have V_xd := Arv.set Ar6 q6 Sz6 Nn6 Hs6 Ft6 (fits_nar_byte _) W6 2 rfl (Nat.le_of_ble_eq_true rfl)
  rw [oB8 xc2] at V_xd
  replace V_xd : Arv Z h xd xl .byte (3 : Int32) [(ib xc0), (ib xc1), (ib xc2)] (.int (0 : Int32)) := V_xd
  refine oWk.to (mkF m 7 #[rv xa, iv 3, rv xd, iv 3, iv 3, iv 3, iv xc2] [(.int 3), (.int 3)]) (fun _ kt => st _ (zC X hx hby d8_32 rfl rfl (l' := #[rv xa, iv ((2 : Int32) + (1 : Int32)), rv xd, iv 2, iv 3, iv 2, iv xc2]) rfl (zC X hx hby d8_35 rfl rfl (l' := #[rv xa, iv 3, rv xd, iv ((2 : Int32) + (1 : Int32)), iv 3, iv 2, iv xc2]) rfl (zC X hx hby d8_38 rfl rfl (l' := #[rv xa, iv 3, rv xd, iv 3, iv 3, iv ((2 : Int32) + (1 : Int32)), iv xc2]) rfl (zG X hx hby d8_41 rfl (pc' := 3) rfl (zJ X hx hby d8_3 rfl rfl (zJ X hx hby d8_5 rfl rfl kt))))))) ?_
  refine oWk.to (mkF m 46 #[rv xa, iv 3, rv xd, iv 3, iv 3, iv 3, iv xc2] [(.int 3)]) (fun _ kt => zY X hx hby d8_7 rfl rfl (flt (by decide)).2.1 (pc' := 44) rfl (zJ X hx hby d8_44 rfl rfl kt)) ?_
  exact oRetI X hx hlk hret (hb hby d8_46) (by rw [e0]; exact ⟨rfl, K, V_xd⟩) (by decide) (by decide)
def Q_rC3_3 (Z : State) (xa : Addr) (xk : ClassId) (xc0 xc1 xc2 : Int32) (h0 : Heap) (v : Option Value) (h : Heap) (L : List Loc) : Prop := ∃ (nb : Addr) (nk : ClassId), v = some (.ref nb) ∧ oKp h0 h [] L ∧ (h0.size ≤ nb) ∧ (Arv Z h nb nk .byte (3 : Int32) [(ib xc0), (ib xc1), (ib xc2)] (.int (0 : Int32)))
theorem rC3_3 (l : Launch) (Z : State) (a0 : Array Value) (hw : oHW a0 Z) (ws : List Jvm.Cond) (xa : Addr) (xk : ClassId) (xc0 xc1 xc2 : Int32) (h0 : Heap) (O0 : Ext Z.heap h0) (V_xa : Arv Z h0 xa xk .char (3 : Int32) [(.int xc0), (.int xc1), (.int xc2)] (.int (0 : Int32))) (hc0_ : ¬ (255 : Int32) < xc0) (hc1_ : ¬ (255 : Int32) < xc1) (hc2_ : ¬ (255 : Int32) < xc2) :
    oCon l Z yy6 jdk_52_method_16_code 6 (some (.array .byte)) ws ({ frames := 1, cells := 1, slots := 3, locals := 18 } : Room) #[(.ref xa), (.int (0 : Int32)), (.int (3 : Int32))] h0 (Q_rC3_3 Z xa xk xc0 xc1 xc2 h0) := by
  refine oCon.of (plainFor_of_name pn_3) ?_
  intro p e s m below meth c T X hx hby hml hown hnm hret hlk hZ e0
  have hml : c.maxLocals = 6 := hml
  have K : oKp h0 h0 [] [] := oKp.nil _ _
  refine oWk.cast (g' := (mkF m 0 #[rv xa, iv 0, iv 3, uu, uu, uu] [])) (by first | rfl | (simp [entryFrame, mkF, argsToLocals, Value.category]; done)) ?_
  refine oWk.st (fun _ kt => zI X hx hby d7_0 rfl rfl kt) ?_
  obtain ⟨o1, g1⟩ : ∃ z, z = h0.size := ⟨_, rfl⟩
  have ne_xa_o1 : xa ≠ o1 := Nat.ne_of_lt (Nat.lt_of_lt_of_le V_xa.lt (Nat.le_of_eq g1.symm))
  have ge_o1 : h0.size ≤ o1 := Nat.le_trans K.le (Nat.le_of_eq g1.symm)
  obtain ⟨T, h, k1, X, e0, E1, A1, st⟩ := newP X hx hZ (oW hw 17 rfl) e0 (g := (mkF m 1 #[rv xa, iv 0, iv 3, uu, uu, uu] [(.int 3)])) rfl (hb hby d7_1) rfl (by decide) (cap := 3) (by decide) (by decide) (by decide) (by decide)
  rw [← g1] at A1 st
  have K := K.ext E1
  have V_o1 : Arv Z h o1 k1 .byte (3 : Int32) [(.int (0 : Int32)), (.int (0 : Int32)), (.int (0 : Int32))] (.int (0 : Int32)) := (Arv.new A1 (by decide)).pad (pad_rep [] (.int (0 : Int32)) 3)
  refine oWk.to (mkF m 9 #[rv xa, iv 0, iv 3, rv o1, uu, uu] [(.int 3), (.int 0), (.ref o1), (.int 0), (.ref xa)]) (fun _ kt => st _ (zTn X hx hby d7_3 rfl rfl rfl (l' := #[rv xa, iv 0, iv 3, rv o1, uu, uu]) rfl (zA X hx hby d7_4 rfl rfl rfl (zI X hx hby d7_5 rfl rfl (zA X hx hby d7_6 rfl rfl rfl (zK X hx hby d7_7 rfl (zI X hx hby d7_8 rfl rfl kt))))))) ?_
  have V_xa := (V_xa.ext E1)
  have Oh := K.old O0 all0
  obtain ⟨_, T, h, Lc3, X, e0, hQ, st⟩ := (cs1 hw).run X hx hZ hown e0 (A := [(.ref xa), (.int (0 : Int32)), (.ref o1), (.int (0 : Int32)), (.int (3 : Int32))]) rfl (rC5_3 l Z a0 hw [] xa o1 xk k1 xc0 xc1 xc2 h Oh (Nat.le_trans O0.1 ge_o1) ne_xa_o1 V_xa V_o1 hc0_ hc1_ hc2_) (W := 0) (by decide) hml (Ls := #[rv xa, iv 0, iv 3, rv o1, uu, uu]) rfl (rest := []) rfl rfl hby d7_9
  obtain ⟨rfl, K2, V_o1⟩ := hQ
  have K := K.call K2 (allS (Or.inr ge_o1) all0)
  refine oWk.to (mkF m 58 #[rv xa, iv 0, iv 3, rv o1, iv 3, uu] [(.ref o1)]) (fun _ kt => st _ (zS X hx hby d7_12 rfl rfl (l' := #[rv xa, iv 0, iv 3, rv o1, iv 3, uu]) rfl (zJ X hx hby d7_14 rfl rfl (zI X hx hby d7_16 rfl rfl (zY X hx hby d7_17 rfl rfl (teq (by decide)).1 (pc' := 57) rfl (zA X hx hby d7_57 rfl rfl rfl kt)))))) ?_
  exact oRetA X hx hlk hret rfl rfl (hb hby d7_58) (by rw [e0]; exact ⟨o1, k1, rfl, K, ge_o1, V_o1⟩) (by decide) (by decide)
def Q_rCo_3 (Z : State) (xb : Addr) (xk : ClassId) (xy0 xy1 xy2 : Int32) (h0 : Heap) (v : Option Value) (h : Heap) (L : List Loc) : Prop := v = some (.int (0 : Int32)) ∧ h = h0 ∧ oKp h0 h [] L
theorem rCo_3 (l : Launch) (Z : State) (a0 : Array Value) (hw : oHW a0 Z) (ws : List Jvm.Cond) (xb : Addr) (xk : ClassId) (xy0 xy1 xy2 : Int32) (h0 : Heap) (O0 : Ext Z.heap h0) (V_xb : Arv Z h0 xb xk .byte (3 : Int32) [(.int xy0), (.int xy1), (.int xy2)] (.int (0 : Int32))) :
    oCon l Z yy7 jdk_52_method_15_code 2 (some .byte) ws ({ frames := 0, cells := 0, slots := 0, locals := 0 } : Room) #[(.ref xb), (.int (3 : Int32))] h0 (Q_rCo_3 Z xb xk xy0 xy1 xy2 h0) := by
  refine oCon.of (plainFor_of_name pn_3) ?_
  intro p e s m below meth c T X hx hby hml hown hnm hret hlk hZ e0
  have hml : c.maxLocals = 2 := hml
  have K : oKp h0 h0 [] [] := oKp.nil _ _
  refine oWk.cast (g' := (mkF m 0 #[rv xb, iv 3] [])) (by first | rfl | (simp [entryFrame, mkF, argsToLocals, Value.category]; done)) ?_
  refine oWk.to (mkF m 8 #[rv xb, iv 3] [(.int 0)]) (fun _ kt => zI X hx hby d9_0 rfl rfl (zA X hx hby d9_1 rfl rfl rfl (oAl X hx hZ e0 V_xb hby d9_2 rfl rfl (XS.isub X.here hx rfl (hb hby d9_3) rfl (zL X hx hby d9_4 rfl (XS.iushr X.here hx rfl (hb hby d9_6) rfl (XS.i2b X.here hx rfl (hb hby d9_7) rfl kt))))))) ?_
  exact oRetN X hx hlk hret (Or.inl rfl) rfl (hb hby d9_8) (by rw [e0]; exact ⟨rfl, rfl, K⟩) (by decide) (by decide)
def Q_rI4_3 (Z : State) (xs xa : Addr) (xk : ClassId) (xz : Int32) (xu xv : Value) (xc0 xc1 xc2 : Int32) (h0 : Heap) (v : Option Value) (h : Heap) (L : List Loc) : Prop := ∃ (nb : Addr) (nk : ClassId), v = none ∧ oKp h0 h [xs] L ∧ (Exa Z h xs Y0) ∧ (Fld Z h xs Y0 "coder" "B" (.int (0 : Int32))) ∧ (Fld Z h xs Y0 "value" "[B" (.ref nb)) ∧ (h0.size ≤ nb) ∧ (Arv Z h nb nk .byte (3 : Int32) [(ib xc0), (ib xc1), (ib xc2)] (.int (0 : Int32)))
theorem rI4_3 (l : Launch) (Z : State) (a0 : Array Value) (hw : oHW a0 Z) (ws : List Jvm.Cond) (xs xa : Addr) (xk : ClassId) (xz : Int32) (xu xv : Value) (xc0 xc1 xc2 : Int32) (h0 : Heap) (O0 : Ext Z.heap h0) (S_COMPACT_STRINGS : Sta Z Z.heap Y0 Y6 "Z" (.int xz)) (hz : ¬ xz = (0 : Int32)) (og_xs : Z.heap.size ≤ xs) (E_xs : Exa Z h0 xs Y0) (F_value_xs : Fld Z h0 xs Y0 "value" "[B" xu) (F_coder_xs : Fld Z h0 xs Y0 "coder" "B" xv) (V_xa : Arv Z h0 xa xk .char (3 : Int32) [(.int xc0), (.int xc1), (.int xc2)] (.int (0 : Int32))) (hc0_ : ¬ (255 : Int32) < xc0) (hc1_ : ¬ (255 : Int32) < xc1) (hc2_ : ¬ (255 : Int32) < xc2) :
    oCon l Z yy3 jdk_42_method_149_code 6 none ws ({ frames := 2, cells := 1, slots := 3, locals := 35 } : Room) #[(.ref xs), (.ref xa), (.int (0 : Int32)), (.int (3 : Int32)), .null] h0 (Q_rI4_3 Z xs xa xk xz xu xv xc0 xc1 xc2 h0) := by
  refine oCon.of (plainFor_of_name pn_2) ?_
  intro p e s m below meth c T X hx hby hml hown hnm hret hlk hZ e0
  have hml : c.maxLocals = 6 := hml
  have K : oKp h0 h0 [xs] [] := oKp.nil _ _
  refine oWk.cast (g' := (mkF m 0 #[rv xs, rv xa, iv 0, iv 3, .val .null, uu] [])) (by first | rfl | (simp [entryFrame, mkF, argsToLocals, Value.category]; done)) ?_
  refine oWk.st (fun _ kt => zA X hx hby d2_0 rfl rfl rfl kt) ?_
  obtain ⟨T, X, e0, st⟩ := initO X hx hZ hown (oW hw 13 rfl) (oW hw 14 rfl) (oW hw 15 rfl) e0 (g := (mkF m 1 #[rv xs, rv xa, iv 0, iv 3, .val .null, uu] [(.ref xs)])) rfl (by rw [hml]; rfl) rfl (hb hby d2_1) (by decide) (W := 0) (Nat.le_of_eq rfl) (by decide)
  refine oWk.st (fun _ kt => st _ (zI X hx hby d2_4 rfl rfl (zF X hx hby d2_5 rfl rfl ((if0 _ _).trans (feq (by decide)).2) (pc' := 27) rfl kt))) ?_
  have Oh := K.old O0 (allS og_xs all0)
  obtain ⟨T, X, e0, st⟩ := getS2 X hx hZ hown (host := "") (Or.inl (oW hw 37 rfl)) Via.refl e0 (S_COMPACT_STRINGS.ext Oh) (g := (mkF m 27 #[rv xs, rv xa, iv 0, iv 3, .val .null, uu] [])) rfl (hb hby d2_27)
  refine oWk.st (fun _ kt => st _ (zH X hx hby d2_30 rfl rfl ((if0 _ _).trans (feq hz).1) (zA X hx hby d2_33 rfl rfl rfl (zI X hx hby d2_34 rfl rfl (zI X hx hby d2_35 rfl rfl kt))))) ?_
  have lt_xs := E_xs.lt
  have lt_xa := V_xa.lt
  obtain ⟨_, T, h, Lc2, X, e0, hQ, st⟩ := (cs2 hw).run X hx hZ hown e0 (A := [(.ref xa), (.int (0 : Int32)), (.int (3 : Int32))]) rfl (rC3_3 l Z a0 hw [] xa xk xc0 xc1 xc2 h0 Oh V_xa hc0_ hc1_ hc2_) (W := 0) (by decide) hml (Ls := #[rv xs, rv xa, iv 0, iv 3, .val .null, uu]) rfl (rest := []) rfl rfl hby d2_36
  obtain ⟨nb1, nk1, rfl, K1, gn_nb1, V_nb1⟩ := hQ
  have ge_nb1 := Nat.le_trans K.le gn_nb1
  have ne_xs_nb1 : xs ≠ nb1 := Nat.ne_of_lt (Nat.lt_of_lt_of_le lt_xs gn_nb1)
  have ne_xa_nb1 : xa ≠ nb1 := Nat.ne_of_lt (Nat.lt_of_lt_of_le lt_xa gn_nb1)
  have K := K.call K1 all0
  refine oWk.st (fun _ kt => st _ (zT X hx hby d2_39 rfl rfl rfl (l' := #[rv xs, rv xa, iv 0, iv 3, .val .null, rv nb1]) rfl (zA X hx hby d2_41 rfl rfl rfl (zB X hx hby d2_42 rfl rfl rfl (zI X hx hby d2_44 rfl rfl kt))))) ?_
  have Oh := K.old O0 (allS og_xs all0)
  obtain ⟨T, L4, X, e0, K, st⟩ := (cs3 hw).pure X hx hZ hown e0 K (A := [(.ref nb1), (.int (3 : Int32))]) rfl (rCo_3 l Z a0 hw [] nb1 nk1 (xc0.toInt8.toInt32) (xc1.toInt8.toInt32) (xc2.toInt8.toInt32) h Oh V_nb1) (fun _ _ _ q => q) (W := 1) (by decide) hml (Ls := #[rv xs, rv xa, iv 0, iv 3, .val .null, rv nb1]) rfl (rest := [(.ref xs)]) rfl rfl hby d2_45
  refine oWk.st (fun _ kt => st _ kt) ?_
  have E_xs := (E_xs.keep K1.1)
  have F_coder_xs := (F_coder_xs.keep K1.1 nin0)
  obtain ⟨T, h, X, e0, W5, st⟩ := putFN X hx hZ hown (oW hw 23 rfl) Via.refl e0 F_coder_xs E_xs (Or.inr ⟨(oW hw 19 rfl), rfl, hnm⟩) (oW hw 4 rfl) (ty := .byte) (v' := .int (0 : Int32)) (by decide) rfl (by decide) (g := (mkF m 48 #[rv xs, rv xa, iv 0, iv 3, .val .null, rv nb1] [(.int 0), (.ref xs)])) rfl rfl (hb hby d2_48)
  have K := K.wr W5 (Or.inl (List.mem_of_getElem? (i := 0) rfl))
  have F_coder_xs := F_coder_xs.same W5
  refine oWk.st (fun _ kt => st _ (zA X hx hby d2_51 rfl rfl rfl (zB X hx hby d2_52 rfl rfl rfl kt))) ?_
  have E_xs := (E_xs.wr W5)
  have F_value_xs := ((F_value_xs.keep K1.1 nin0).other W5 (Or.inr (slot_ne (Or.inr (oW hw 18 rfl)) (Or.inr (oW hw 19 rfl)) (by decide) (t := (.array .byte)) (t' := .byte) (by decide) (by decide))))
  obtain ⟨T, h, X, e0, W6, st⟩ := putF X hx hZ hown (host := "") (Or.inl (oW hw 22 rfl)) Via.refl e0 F_value_xs E_xs (Or.inr ⟨(oW hw 18 rfl), rfl, hnm⟩) (oW hw 4 rfl) (ty := (.array .byte)) (by decide) rfl rfl (g := (mkF m 54 #[rv xs, rv xa, iv 0, iv 3, .val .null, rv nb1] [(.ref nb1), (.ref xs)])) rfl rfl (hb hby d2_54)
  have K := K.wr W6 (Or.inl (List.mem_of_getElem? (i := 0) rfl))
  have F_value_xs := F_value_xs.same W6
  refine oWk.to (mkF m 57 #[rv xs, rv xa, iv 0, iv 3, .val .null, rv nb1] []) (fun _ kt => st _ kt) ?_
  have E_xs := (E_xs.wr W6)
  have F_coder_xs := (F_coder_xs.other W6 (Or.inr (slot_ne (Or.inr (oW hw 19 rfl)) (Or.inr (oW hw 18 rfl)) (by decide) (t := .byte) (t' := (.array .byte)) (by decide) (by decide))))
  have V_nb1 := ((V_nb1.other W5 (Ne.symm ne_xs_nb1)).other W6 (Ne.symm ne_xs_nb1))
  exact oRetV X hx hlk hret (hb hby d2_57) (by rw [e0]; exact ⟨nb1, nk1, rfl, K, E_xs, F_coder_xs, F_value_xs, ge_nb1, V_nb1⟩) (by decide) (by decide)
def Q_rI1_3 (Z : State) (xs xa : Addr) (xk : ClassId) (xz : Int32) (xu xv : Value) (xc0 xc1 xc2 : Int32) (h0 : Heap) (v : Option Value) (h : Heap) (L : List Loc) : Prop := ∃ (nb : Addr) (nk : ClassId), v = none ∧ oKp h0 h [xs] L ∧ (Exa Z h xs Y0) ∧ (Fld Z h xs Y0 "coder" "B" (.int (0 : Int32))) ∧ (Fld Z h xs Y0 "value" "[B" (.ref nb)) ∧ (h0.size ≤ nb) ∧ (Arv Z h nb nk .byte (3 : Int32) [(ib xc0), (ib xc1), (ib xc2)] (.int (0 : Int32)))
theorem rI1_3 (l : Launch) (Z : State) (a0 : Array Value) (hw : oHW a0 Z) (ws : List Jvm.Cond) (xs xa : Addr) (xk : ClassId) (xz : Int32) (xu xv : Value) (xc0 xc1 xc2 : Int32) (h0 : Heap) (O0 : Ext Z.heap h0) (S_COMPACT_STRINGS : Sta Z Z.heap Y0 Y6 "Z" (.int xz)) (hz : ¬ xz = (0 : Int32)) (og_xs : Z.heap.size ≤ xs) (E_xs : Exa Z h0 xs Y0) (F_value_xs : Fld Z h0 xs Y0 "value" "[B" xu) (F_coder_xs : Fld Z h0 xs Y0 "coder" "B" xv) (V_xa : Arv Z h0 xa xk .char (3 : Int32) [(.int xc0), (.int xc1), (.int xc2)] (.int (0 : Int32))) (hc0_ : ¬ (255 : Int32) < xc0) (hc1_ : ¬ (255 : Int32) < xc1) (hc2_ : ¬ (255 : Int32) < xc2) :
    oCon l Z yy4 jdk_42_method_3_code 2 none ws ({ frames := 3, cells := 1, slots := 3, locals := 52 } : Room) #[(.ref xs), (.ref xa)] h0 (Q_rI1_3 Z xs xa xk xz xu xv xc0 xc1 xc2 h0) := by
  refine oCon.of (plainFor_of_name pn_2) ?_
  intro p e s m below meth c T X hx hby hml hown hnm hret hlk hZ e0
  have hml : c.maxLocals = 2 := hml
  have K : oKp h0 h0 [xs] [] := oKp.nil _ _
  refine oWk.cast (g' := (mkF m 0 #[rv xs, rv xa] [])) (by first | rfl | (simp [entryFrame, mkF, argsToLocals, Value.category]; done)) ?_
  refine oWk.st (fun _ kt => zA X hx hby d1_0 rfl rfl rfl (zA X hx hby d1_1 rfl rfl rfl (zK X hx hby d1_2 rfl (zA X hx hby d1_3 rfl rfl rfl (oAl X hx hZ e0 V_xa hby d1_4 rfl rfl (XS.aconstNull X.here hx rfl (hb hby d1_5) kt)))))) ?_
  have lt_xs := E_xs.lt
  have lt_xa := V_xa.lt
  have Oh := K.old O0 (allS og_xs all0)
  obtain ⟨_, T, h, Lc3, X, e0, hQ, st⟩ := (cs4 hw).run X hx hZ hown e0 (A := [(.ref xs), (.ref xa), (.int (0 : Int32)), (.int (3 : Int32)), .null]) ⟨rfl, _, _, rfl⟩ (rI4_3 l Z a0 hw [] xs xa xk xz xu xv xc0 xc1 xc2 h0 Oh S_COMPACT_STRINGS hz og_xs E_xs F_value_xs F_coder_xs V_xa hc0_ hc1_ hc2_) (W := 0) (by decide) hml (Ls := #[rv xs, rv xa]) rfl (rest := []) rfl rfl hby d1_6
  obtain ⟨nb2, nk2, rfl, K2, E_xs, F_coder_xs, F_value_xs, gn_nb2, V_nb2⟩ := hQ
  have ge_nb2 := Nat.le_trans K.le gn_nb2
  have ne_xs_nb2 : xs ≠ nb2 := Nat.ne_of_lt (Nat.lt_of_lt_of_le lt_xs gn_nb2)
  have ne_xa_nb2 : xa ≠ nb2 := Nat.ne_of_lt (Nat.lt_of_lt_of_le lt_xa gn_nb2)
  have K := K.call K2 (allS (Or.inl (List.mem_of_getElem? (i := 0) rfl)) all0)
  refine oWk.to (mkF m 9 #[rv xs, rv xa] []) (fun _ kt => st _ kt) ?_
  exact oRetV X hx hlk hret (hb hby d1_9) (by rw [e0]; exact ⟨nb2, nk2, rfl, K, E_xs, F_coder_xs, F_value_xs, ge_nb2, V_nb2⟩) (by decide) (by decide)
def Q_rC5_4 (Z : State) (xa xd : Addr) (xk xl : ClassId) (xc0 xc1 xc2 xc3 : Int32) (h0 : Heap) (v : Option Value) (h : Heap) (L : List Loc) : Prop := v = some (.int (4 : Int32)) ∧ oKp h0 h [xd] L ∧ (Arv Z h xd xl .byte (4 : Int32) [(ib xc0), (ib xc1), (ib xc2), (ib xc3)] (.int (0 : Int32)))
theorem rC5_4 (l : Launch) (Z : State) (a0 : Array Value) (hw : oHW a0 Z) (ws : List Jvm.Cond) (xa xd : Addr) (xk xl : ClassId) (xc0 xc1 xc2 xc3 : Int32) (h0 : Heap) (O0 : Ext Z.heap h0) (og_xd : Z.heap.size ≤ xd) (ne_xa_xd : xa ≠ xd) (V_xa : Arv Z h0 xa xk .char (4 : Int32) [(.int xc0), (.int xc1), (.int xc2), (.int xc3)] (.int (0 : Int32))) (V_xd : Arv Z h0 xd xl .byte (4 : Int32) [(.int (0 : Int32)), (.int (0 : Int32)), (.int (0 : Int32)), (.int (0 : Int32))] (.int (0 : Int32))) (hc0_ : ¬ (255 : Int32) < xc0) (hc1_ : ¬ (255 : Int32) < xc1) (hc2_ : ¬ (255 : Int32) < xc2) (hc3_ : ¬ (255 : Int32) < xc3) :
    oCon l Z yy5 jdk_52_method_21_code 7 (some .int) ws ({ frames := 0, cells := 0, slots := 0, locals := 0 } : Room) #[(.ref xa), (.int (0 : Int32)), (.ref xd), (.int (0 : Int32)), (.int (4 : Int32))] h0 (Q_rC5_4 Z xa xd xk xl xc0 xc1 xc2 xc3 h0) := by
  refine oCon.of (plainFor_of_name pn_3) ?_
  intro p e s m below meth c T X hx hby hml hown hnm hret hlk hZ e0
  have hml : c.maxLocals = 7 := hml
  have K : oKp h0 h0 [xd] [] := oKp.nil _ _
  refine oWk.cast (g' := (mkF m 0 #[rv xa, iv 0, rv xd, iv 0, iv 4, uu, uu] [])) (by first | rfl | (simp [entryFrame, mkF, argsToLocals, Value.category]; done)) ?_
  refine oWk.to (mkF m 12 #[rv xa, iv 0, rv xd, iv 0, iv 4, iv 0, uu] [(.int 0), (.ref xa)]) (fun _ kt => zK X hx hby d8_0 rfl (zS X hx hby d8_1 rfl rfl (l' := #[rv xa, iv 0, rv xd, iv 0, iv 4, iv 0, uu]) rfl (zJ X hx hby d8_3 rfl rfl (zJ X hx hby d8_5 rfl rfl (zN X hx hby d8_7 rfl rfl (tlt (by decide)).2.1 (zA X hx hby d8_10 rfl rfl rfl (zI X hx hby d8_11 rfl rfl kt))))))) ?_
  refine oWk.to (mkF m 20 #[rv xa, iv 0, rv xd, iv 0, iv 4, iv 0, iv xc0] [(.int 255), (.int xc0)]) (fun _ kt => oLdC X hx hZ e0 V_xa (0 : Int32) (.int xc0) ⟨by decide, by decide⟩ rfl hby d8_12 rfl rfl (zS X hx hby d8_13 rfl rfl (l' := #[rv xa, iv 0, rv xd, iv 0, iv 4, iv 0, iv xc0]) rfl (zJ X hx hby d8_15 rfl rfl (zM X hx hby d8_17 rfl kt)))) ?_
  refine oWk.to (mkF m 31 #[rv xa, iv 0, rv xd, iv 0, iv 4, iv 0, iv xc0] [(ib xc0), (.int 0), (.ref xd)]) (fun _ kt => zY X hx hby d8_20 rfl rfl (flt hc0_).2.2.2 (pc' := 26) rfl (zA X hx hby d8_26 rfl rfl rfl (zI X hx hby d8_27 rfl rfl (zJ X hx hby d8_28 rfl rfl (XS.i2b X.here hx rfl (hb hby d8_30) rfl kt))))) ?_
  obtain ⟨cl2, Ar2, q2, Sz2, Nn2, Hs2, Ft2⟩ := id V_xd
  have hin2 : ¬ ((0 : Int32) < 0 ∨ cl2.slots.size ≤ ((0 : Int32)).toNatClampNeg) := inb_of Sz2 ⟨by decide, by decide⟩
  obtain ⟨T, h, X, e0, W2, st⟩ := stB X hx hZ e0 Ar2 (j := (0 : Int32)) hin2 (g := (mkF m 31 #[rv xa, iv 0, rv xd, iv 0, iv 4, iv 0, iv xc0] [(ib xc0), (.int 0), (.ref xd)])) rfl rfl (hb hby d8_31)
  have K := K.wr W2 (Or.inl (List.mem_of_getElem? (i := 0) rfl))
  have V_xd := Arv.set Ar2 q2 Sz2 Nn2 Hs2 Ft2 (fits_nar_byte _) W2 0 rfl (Nat.le_of_ble_eq_true rfl)
  rw [oB8 xc0] at V_xd
  replace V_xd : Arv Z h xd xl .byte (4 : Int32) [(ib xc0), (.int (0 : Int32)), (.int (0 : Int32)), (.int (0 : Int32))] (.int (0 : Int32)) := V_xd
  refine oWk.to (mkF m 7 #[rv xa, iv 1, rv xd, iv 1, iv 4, iv 1, iv xc0] [(.int 4), (.int 1)]) (fun _ kt => st _ (zC X hx hby d8_32 rfl rfl (l' := #[rv xa, iv ((0 : Int32) + (1 : Int32)), rv xd, iv 0, iv 4, iv 0, iv xc0]) rfl (zC X hx hby d8_35 rfl rfl (l' := #[rv xa, iv 1, rv xd, iv ((0 : Int32) + (1 : Int32)), iv 4, iv 0, iv xc0]) rfl (zC X hx hby d8_38 rfl rfl (l' := #[rv xa, iv 1, rv xd, iv 1, iv 4, iv ((0 : Int32) + (1 : Int32)), iv xc0]) rfl (zG X hx hby d8_41 rfl (pc' := 3) rfl (zJ X hx hby d8_3 rfl rfl (zJ X hx hby d8_5 rfl rfl kt))))))) ?_
  refine oWk.st (fun _ kt => zN X hx hby d8_7 rfl rfl (tlt (by decide)).2.1 (zA X hx hby d8_10 rfl rfl rfl (zI X hx hby d8_11 rfl rfl kt))) ?_
  have V_xa := (V_xa.other W2 ne_xa_xd)
  refine oWk.to (mkF m 20 #[rv xa, iv 1, rv xd, iv 1, iv 4, iv 1, iv xc1] [(.int 255), (.int xc1)]) (fun _ kt => oLdC X hx hZ e0 V_xa (1 : Int32) (.int xc1) ⟨by decide, by decide⟩ rfl hby d8_12 rfl rfl (zS X hx hby d8_13 rfl rfl (l' := #[rv xa, iv 1, rv xd, iv 1, iv 4, iv 1, iv xc1]) rfl (zJ X hx hby d8_15 rfl rfl (zM X hx hby d8_17 rfl kt)))) ?_
  refine oWk.to (mkF m 31 #[rv xa, iv 1, rv xd, iv 1, iv 4, iv 1, iv xc1] [(ib xc1), (.int 1), (.ref xd)]) (fun _ kt => zY X hx hby d8_20 rfl rfl (flt hc1_).2.2.2 (pc' := 26) rfl (zA X hx hby d8_26 rfl rfl rfl (zI X hx hby d8_27 rfl rfl (zJ X hx hby d8_28 rfl rfl (XS.i2b X.here hx rfl (hb hby d8_30) rfl kt))))) ?_
  obtain ⟨cl4, Ar4, q4, Sz4, Nn4, Hs4, Ft4⟩ := id V_xd
  have hin4 : ¬ ((1 : Int32) < 0 ∨ cl4.slots.size ≤ ((1 : Int32)).toNatClampNeg) := inb_of Sz4 ⟨by decide, by decide⟩
  obtain ⟨T, h, X, e0, W4, st⟩ := stB X hx hZ e0 Ar4 (j := (1 : Int32)) hin4 (g := (mkF m 31 #[rv xa, iv 1, rv xd, iv 1, iv 4, iv 1, iv xc1] [(ib xc1), (.int 1), (.ref xd)])) rfl rfl (hb hby d8_31)
  have K := K.wr W4 (Or.inl (List.mem_of_getElem? (i := 0) rfl))
  have V_xd := Arv.set Ar4 q4 Sz4 Nn4 Hs4 Ft4 (fits_nar_byte _) W4 1 rfl (Nat.le_of_ble_eq_true rfl)
  rw [oB8 xc1] at V_xd
  replace V_xd : Arv Z h xd xl .byte (4 : Int32) [(ib xc0), (ib xc1), (.int (0 : Int32)), (.int (0 : Int32))] (.int (0 : Int32)) := V_xd
  refine oWk.to (mkF m 7 #[rv xa, iv 2, rv xd, iv 2, iv 4, iv 2, iv xc1] [(.int 4), (.int 2)]) (fun _ kt => st _ (zC X hx hby d8_32 rfl rfl (l' := #[rv xa, iv ((1 : Int32) + (1 : Int32)), rv xd, iv 1, iv 4, iv 1, iv xc1]) rfl (zC X hx hby d8_35 rfl rfl (l' := #[rv xa, iv 2, rv xd, iv ((1 : Int32) + (1 : Int32)), iv 4, iv 1, iv xc1]) rfl (zC X hx hby d8_38 rfl rfl (l' := #[rv xa, iv 2, rv xd, iv 2, iv 4, iv ((1 : Int32) + (1 : Int32)), iv xc1]) rfl (zG X hx hby d8_41 rfl (pc' := 3) rfl (zJ X hx hby d8_3 rfl rfl (zJ X hx hby d8_5 rfl rfl kt))))))) ?_
  refine oWk.st (fun _ kt => zN X hx hby d8_7 rfl rfl (tlt (by decide)).2.1 (zA X hx hby d8_10 rfl rfl rfl (zI X hx hby d8_11 rfl rfl kt))) ?_
  have V_xa := (V_xa.other W4 ne_xa_xd)
  refine oWk.to (mkF m 20 #[rv xa, iv 2, rv xd, iv 2, iv 4, iv 2, iv xc2] [(.int 255), (.int xc2)]) (fun _ kt => oLdC X hx hZ e0 V_xa (2 : Int32) (.int xc2) ⟨by decide, by decide⟩ rfl hby d8_12 rfl rfl (zS X hx hby d8_13 rfl rfl (l' := #[rv xa, iv 2, rv xd, iv 2, iv 4, iv 2, iv xc2]) rfl (zJ X hx hby d8_15 rfl rfl (zM X hx hby d8_17 rfl kt)))) ?_
  refine oWk.to (mkF m 31 #[rv xa, iv 2, rv xd, iv 2, iv 4, iv 2, iv xc2] [(ib xc2), (.int 2), (.ref xd)]) (fun _ kt => zY X hx hby d8_20 rfl rfl (flt hc2_).2.2.2 (pc' := 26) rfl (zA X hx hby d8_26 rfl rfl rfl (zI X hx hby d8_27 rfl rfl (zJ X hx hby d8_28 rfl rfl (XS.i2b X.here hx rfl (hb hby d8_30) rfl kt))))) ?_
  obtain ⟨cl6, Ar6, q6, Sz6, Nn6, Hs6, Ft6⟩ := id V_xd
  have hin6 : ¬ ((2 : Int32) < 0 ∨ cl6.slots.size ≤ ((2 : Int32)).toNatClampNeg) := inb_of Sz6 ⟨by decide, by decide⟩
  obtain ⟨T, h, X, e0, W6, st⟩ := stB X hx hZ e0 Ar6 (j := (2 : Int32)) hin6 (g := (mkF m 31 #[rv xa, iv 2, rv xd, iv 2, iv 4, iv 2, iv xc2] [(ib xc2), (.int 2), (.ref xd)])) rfl rfl (hb hby d8_31)
  have K := K.wr W6 (Or.inl (List.mem_of_getElem? (i := 0) rfl))
  have V_xd := Arv.set Ar6 q6 Sz6 Nn6 Hs6 Ft6 (fits_nar_byte _) W6 2 rfl (Nat.le_of_ble_eq_true rfl)
  rw [oB8 xc2] at V_xd
  replace V_xd : Arv Z h xd xl .byte (4 : Int32) [(ib xc0), (ib xc1), (ib xc2), (.int (0 : Int32))] (.int (0 : Int32)) := V_xd
  refine oWk.to (mkF m 7 #[rv xa, iv 3, rv xd, iv 3, iv 4, iv 3, iv xc2] [(.int 4), (.int 3)]) (fun _ kt => st _ (zC X hx hby d8_32 rfl rfl (l' := #[rv xa, iv ((2 : Int32) + (1 : Int32)), rv xd, iv 2, iv 4, iv 2, iv xc2]) rfl (zC X hx hby d8_35 rfl rfl (l' := #[rv xa, iv 3, rv xd, iv ((2 : Int32) + (1 : Int32)), iv 4, iv 2, iv xc2]) rfl (zC X hx hby d8_38 rfl rfl (l' := #[rv xa, iv 3, rv xd, iv 3, iv 4, iv ((2 : Int32) + (1 : Int32)), iv xc2]) rfl (zG X hx hby d8_41 rfl (pc' := 3) rfl (zJ X hx hby d8_3 rfl rfl (zJ X hx hby d8_5 rfl rfl kt))))))) ?_
  refine oWk.st (fun _ kt => zN X hx hby d8_7 rfl rfl (tlt (by decide)).2.1 (zA X hx hby d8_10 rfl rfl rfl (zI X hx hby d8_11 rfl rfl kt))) ?_
  have V_xa := (V_xa.other W6 ne_xa_xd)
  refine oWk.to (mkF m 20 #[rv xa, iv 3, rv xd, iv 3, iv 4, iv 3, iv xc3] [(.int 255), (.int xc3)]) (fun _ kt => oLdC X hx hZ e0 V_xa (3 : Int32) (.int xc3) ⟨by decide, by decide⟩ rfl hby d8_12 rfl rfl (zS X hx hby d8_13 rfl rfl (l' := #[rv xa, iv 3, rv xd, iv 3, iv 4, iv 3, iv xc3]) rfl (zJ X hx hby d8_15 rfl rfl (zM X hx hby d8_17 rfl kt)))) ?_
  refine oWk.to (mkF m 31 #[rv xa, iv 3, rv xd, iv 3, iv 4, iv 3, iv xc3] [(ib xc3), (.int 3), (.ref xd)]) (fun _ kt => zY X hx hby d8_20 rfl rfl (flt hc3_).2.2.2 (pc' := 26) rfl (zA X hx hby d8_26 rfl rfl rfl (zI X hx hby d8_27 rfl rfl (zJ X hx hby d8_28 rfl rfl (XS.i2b X.here hx rfl (hb hby d8_30) rfl kt))))) ?_
  obtain ⟨cl8, Ar8, q8, Sz8, Nn8, Hs8, Ft8⟩ := id V_xd
  have hin8 : ¬ ((3 : Int32) < 0 ∨ cl8.slots.size ≤ ((3 : Int32)).toNatClampNeg) := inb_of Sz8 ⟨by decide, by decide⟩
  obtain ⟨T, h, X, e0, W8, st⟩ := stB X hx hZ e0 Ar8 (j := (3 : Int32)) hin8 (g := (mkF m 31 #[rv xa, iv 3, rv xd, iv 3, iv 4, iv 3, iv xc3] [(ib xc3), (.int 3), (.ref xd)])) rfl rfl (hb hby d8_31)
  have K := K.wr W8 (Or.inl (List.mem_of_getElem? (i := 0) rfl))
  have V_xd := Arv.set Ar8 q8 Sz8 Nn8 Hs8 Ft8 (fits_nar_byte _) W8 3 rfl (Nat.le_of_ble_eq_true rfl)
  rw [oB8 xc3] at V_xd
  replace V_xd : Arv Z h xd xl .byte (4 : Int32) [(ib xc0), (ib xc1), (ib xc2), (ib xc3)] (.int (0 : Int32)) := V_xd
  refine oWk.to (mkF m 7 #[rv xa, iv 4, rv xd, iv 4, iv 4, iv 4, iv xc3] [(.int 4), (.int 4)]) (fun _ kt => st _ (zC X hx hby d8_32 rfl rfl (l' := #[rv xa, iv ((3 : Int32) + (1 : Int32)), rv xd, iv 3, iv 4, iv 3, iv xc3]) rfl (zC X hx hby d8_35 rfl rfl (l' := #[rv xa, iv 4, rv xd, iv ((3 : Int32) + (1 : Int32)), iv 4, iv 3, iv xc3]) rfl (zC X hx hby d8_38 rfl rfl (l' := #[rv xa, iv 4, rv xd, iv 4, iv 4, iv ((3 : Int32) + (1 : Int32)), iv xc3]) rfl (zG X hx hby d8_41 rfl (pc' := 3) rfl (zJ X hx hby d8_3 rfl rfl (zJ X hx hby d8_5 rfl rfl kt))))))) ?_
  refine oWk.to (mkF m 46 #[rv xa, iv 4, rv xd, iv 4, iv 4, iv 4, iv xc3] [(.int 4)]) (fun _ kt => zY X hx hby d8_7 rfl rfl (flt (by decide)).2.1 (pc' := 44) rfl (zJ X hx hby d8_44 rfl rfl kt)) ?_
  exact oRetI X hx hlk hret (hb hby d8_46) (by rw [e0]; exact ⟨rfl, K, V_xd⟩) (by decide) (by decide)
def Q_rC3_4 (Z : State) (xa : Addr) (xk : ClassId) (xc0 xc1 xc2 xc3 : Int32) (h0 : Heap) (v : Option Value) (h : Heap) (L : List Loc) : Prop := ∃ (nb : Addr) (nk : ClassId), v = some (.ref nb) ∧ oKp h0 h [] L ∧ (h0.size ≤ nb) ∧ (Arv Z h nb nk .byte (4 : Int32) [(ib xc0), (ib xc1), (ib xc2), (ib xc3)] (.int (0 : Int32)))
theorem rC3_4 (l : Launch) (Z : State) (a0 : Array Value) (hw : oHW a0 Z) (ws : List Jvm.Cond) (xa : Addr) (xk : ClassId) (xc0 xc1 xc2 xc3 : Int32) (h0 : Heap) (O0 : Ext Z.heap h0) (V_xa : Arv Z h0 xa xk .char (4 : Int32) [(.int xc0), (.int xc1), (.int xc2), (.int xc3)] (.int (0 : Int32))) (hc0_ : ¬ (255 : Int32) < xc0) (hc1_ : ¬ (255 : Int32) < xc1) (hc2_ : ¬ (255 : Int32) < xc2) (hc3_ : ¬ (255 : Int32) < xc3) :
    oCon l Z yy6 jdk_52_method_16_code 6 (some (.array .byte)) ws ({ frames := 1, cells := 1, slots := 4, locals := 18 } : Room) #[(.ref xa), (.int (0 : Int32)), (.int (4 : Int32))] h0 (Q_rC3_4 Z xa xk xc0 xc1 xc2 xc3 h0) := by
  refine oCon.of (plainFor_of_name pn_3) ?_
  intro p e s m below meth c T X hx hby hml hown hnm hret hlk hZ e0
  have hml : c.maxLocals = 6 := hml
  have K : oKp h0 h0 [] [] := oKp.nil _ _
  refine oWk.cast (g' := (mkF m 0 #[rv xa, iv 0, iv 4, uu, uu, uu] [])) (by first | rfl | (simp [entryFrame, mkF, argsToLocals, Value.category]; done)) ?_
  refine oWk.st (fun _ kt => zI X hx hby d7_0 rfl rfl kt) ?_
  obtain ⟨o1, g1⟩ : ∃ z, z = h0.size := ⟨_, rfl⟩
  have ne_xa_o1 : xa ≠ o1 := Nat.ne_of_lt (Nat.lt_of_lt_of_le V_xa.lt (Nat.le_of_eq g1.symm))
  have ge_o1 : h0.size ≤ o1 := Nat.le_trans K.le (Nat.le_of_eq g1.symm)
  obtain ⟨T, h, k1, X, e0, E1, A1, st⟩ := newP X hx hZ (oW hw 17 rfl) e0 (g := (mkF m 1 #[rv xa, iv 0, iv 4, uu, uu, uu] [(.int 4)])) rfl (hb hby d7_1) rfl (by decide) (cap := 4) (by decide) (by decide) (by decide) (by decide)
  rw [← g1] at A1 st
  have K := K.ext E1
  have V_o1 : Arv Z h o1 k1 .byte (4 : Int32) [(.int (0 : Int32)), (.int (0 : Int32)), (.int (0 : Int32)), (.int (0 : Int32))] (.int (0 : Int32)) := (Arv.new A1 (by decide)).pad (pad_rep [] (.int (0 : Int32)) 4)
  refine oWk.to (mkF m 9 #[rv xa, iv 0, iv 4, rv o1, uu, uu] [(.int 4), (.int 0), (.ref o1), (.int 0), (.ref xa)]) (fun _ kt => st _ (zTn X hx hby d7_3 rfl rfl rfl (l' := #[rv xa, iv 0, iv 4, rv o1, uu, uu]) rfl (zA X hx hby d7_4 rfl rfl rfl (zI X hx hby d7_5 rfl rfl (zA X hx hby d7_6 rfl rfl rfl (zK X hx hby d7_7 rfl (zI X hx hby d7_8 rfl rfl kt))))))) ?_
  have V_xa := (V_xa.ext E1)
  have Oh := K.old O0 all0
  obtain ⟨_, T, h, Lc3, X, e0, hQ, st⟩ := (cs1 hw).run X hx hZ hown e0 (A := [(.ref xa), (.int (0 : Int32)), (.ref o1), (.int (0 : Int32)), (.int (4 : Int32))]) rfl (rC5_4 l Z a0 hw [] xa o1 xk k1 xc0 xc1 xc2 xc3 h Oh (Nat.le_trans O0.1 ge_o1) ne_xa_o1 V_xa V_o1 hc0_ hc1_ hc2_ hc3_) (W := 0) (by decide) hml (Ls := #[rv xa, iv 0, iv 4, rv o1, uu, uu]) rfl (rest := []) rfl rfl hby d7_9
  obtain ⟨rfl, K2, V_o1⟩ := hQ
  have K := K.call K2 (allS (Or.inr ge_o1) all0)
  refine oWk.to (mkF m 58 #[rv xa, iv 0, iv 4, rv o1, iv 4, uu] [(.ref o1)]) (fun _ kt => st _ (zS X hx hby d7_12 rfl rfl (l' := #[rv xa, iv 0, iv 4, rv o1, iv 4, uu]) rfl (zJ X hx hby d7_14 rfl rfl (zI X hx hby d7_16 rfl rfl (zY X hx hby d7_17 rfl rfl (teq (by decide)).1 (pc' := 57) rfl (zA X hx hby d7_57 rfl rfl rfl kt)))))) ?_
  exact oRetA X hx hlk hret rfl rfl (hb hby d7_58) (by rw [e0]; exact ⟨o1, k1, rfl, K, ge_o1, V_o1⟩) (by decide) (by decide)
def Q_rCo_4 (Z : State) (xb : Addr) (xk : ClassId) (xy0 xy1 xy2 xy3 : Int32) (h0 : Heap) (v : Option Value) (h : Heap) (L : List Loc) : Prop := v = some (.int (0 : Int32)) ∧ h = h0 ∧ oKp h0 h [] L
theorem rCo_4 (l : Launch) (Z : State) (a0 : Array Value) (hw : oHW a0 Z) (ws : List Jvm.Cond) (xb : Addr) (xk : ClassId) (xy0 xy1 xy2 xy3 : Int32) (h0 : Heap) (O0 : Ext Z.heap h0) (V_xb : Arv Z h0 xb xk .byte (4 : Int32) [(.int xy0), (.int xy1), (.int xy2), (.int xy3)] (.int (0 : Int32))) :
    oCon l Z yy7 jdk_52_method_15_code 2 (some .byte) ws ({ frames := 0, cells := 0, slots := 0, locals := 0 } : Room) #[(.ref xb), (.int (4 : Int32))] h0 (Q_rCo_4 Z xb xk xy0 xy1 xy2 xy3 h0) := by
  refine oCon.of (plainFor_of_name pn_3) ?_
  intro p e s m below meth c T X hx hby hml hown hnm hret hlk hZ e0
  have hml : c.maxLocals = 2 := hml
  have K : oKp h0 h0 [] [] := oKp.nil _ _
  refine oWk.cast (g' := (mkF m 0 #[rv xb, iv 4] [])) (by first | rfl | (simp [entryFrame, mkF, argsToLocals, Value.category]; done)) ?_
  refine oWk.to (mkF m 8 #[rv xb, iv 4] [(.int 0)]) (fun _ kt => zI X hx hby d9_0 rfl rfl (zA X hx hby d9_1 rfl rfl rfl (oAl X hx hZ e0 V_xb hby d9_2 rfl rfl (XS.isub X.here hx rfl (hb hby d9_3) rfl (zL X hx hby d9_4 rfl (XS.iushr X.here hx rfl (hb hby d9_6) rfl (XS.i2b X.here hx rfl (hb hby d9_7) rfl kt))))))) ?_
  exact oRetN X hx hlk hret (Or.inl rfl) rfl (hb hby d9_8) (by rw [e0]; exact ⟨rfl, rfl, K⟩) (by decide) (by decide)
def Q_rI4_4 (Z : State) (xs xa : Addr) (xk : ClassId) (xz : Int32) (xu xv : Value) (xc0 xc1 xc2 xc3 : Int32) (h0 : Heap) (v : Option Value) (h : Heap) (L : List Loc) : Prop := ∃ (nb : Addr) (nk : ClassId), v = none ∧ oKp h0 h [xs] L ∧ (Exa Z h xs Y0) ∧ (Fld Z h xs Y0 "coder" "B" (.int (0 : Int32))) ∧ (Fld Z h xs Y0 "value" "[B" (.ref nb)) ∧ (h0.size ≤ nb) ∧ (Arv Z h nb nk .byte (4 : Int32) [(ib xc0), (ib xc1), (ib xc2), (ib xc3)] (.int (0 : Int32)))
theorem rI4_4 (l : Launch) (Z : State) (a0 : Array Value) (hw : oHW a0 Z) (ws : List Jvm.Cond) (xs xa : Addr) (xk : ClassId) (xz : Int32) (xu xv : Value) (xc0 xc1 xc2 xc3 : Int32) (h0 : Heap) (O0 : Ext Z.heap h0) (S_COMPACT_STRINGS : Sta Z Z.heap Y0 Y6 "Z" (.int xz)) (hz : ¬ xz = (0 : Int32)) (og_xs : Z.heap.size ≤ xs) (E_xs : Exa Z h0 xs Y0) (F_value_xs : Fld Z h0 xs Y0 "value" "[B" xu) (F_coder_xs : Fld Z h0 xs Y0 "coder" "B" xv) (V_xa : Arv Z h0 xa xk .char (4 : Int32) [(.int xc0), (.int xc1), (.int xc2), (.int xc3)] (.int (0 : Int32))) (hc0_ : ¬ (255 : Int32) < xc0) (hc1_ : ¬ (255 : Int32) < xc1) (hc2_ : ¬ (255 : Int32) < xc2) (hc3_ : ¬ (255 : Int32) < xc3) :
    oCon l Z yy3 jdk_42_method_149_code 6 none ws ({ frames := 2, cells := 1, slots := 4, locals := 35 } : Room) #[(.ref xs), (.ref xa), (.int (0 : Int32)), (.int (4 : Int32)), .null] h0 (Q_rI4_4 Z xs xa xk xz xu xv xc0 xc1 xc2 xc3 h0) := by
  refine oCon.of (plainFor_of_name pn_2) ?_
  intro p e s m below meth c T X hx hby hml hown hnm hret hlk hZ e0
  have hml : c.maxLocals = 6 := hml
  have K : oKp h0 h0 [xs] [] := oKp.nil _ _
  refine oWk.cast (g' := (mkF m 0 #[rv xs, rv xa, iv 0, iv 4, .val .null, uu] [])) (by first | rfl | (simp [entryFrame, mkF, argsToLocals, Value.category]; done)) ?_
  refine oWk.st (fun _ kt => zA X hx hby d2_0 rfl rfl rfl kt) ?_
  obtain ⟨T, X, e0, st⟩ := initO X hx hZ hown (oW hw 13 rfl) (oW hw 14 rfl) (oW hw 15 rfl) e0 (g := (mkF m 1 #[rv xs, rv xa, iv 0, iv 4, .val .null, uu] [(.ref xs)])) rfl (by rw [hml]; rfl) rfl (hb hby d2_1) (by decide) (W := 0) (Nat.le_of_eq rfl) (by decide)
  refine oWk.st (fun _ kt => st _ (zI X hx hby d2_4 rfl rfl (zF X hx hby d2_5 rfl rfl ((if0 _ _).trans (feq (by decide)).2) (pc' := 27) rfl kt))) ?_
  have Oh := K.old O0 (allS og_xs all0)
  obtain ⟨T, X, e0, st⟩ := getS2 X hx hZ hown (host := "") (Or.inl (oW hw 37 rfl)) Via.refl e0 (S_COMPACT_STRINGS.ext Oh) (g := (mkF m 27 #[rv xs, rv xa, iv 0, iv 4, .val .null, uu] [])) rfl (hb hby d2_27)
  refine oWk.st (fun _ kt => st _ (zH X hx hby d2_30 rfl rfl ((if0 _ _).trans (feq hz).1) (zA X hx hby d2_33 rfl rfl rfl (zI X hx hby d2_34 rfl rfl (zI X hx hby d2_35 rfl rfl kt))))) ?_
  have lt_xs := E_xs.lt
  have lt_xa := V_xa.lt
  obtain ⟨_, T, h, Lc2, X, e0, hQ, st⟩ := (cs2 hw).run X hx hZ hown e0 (A := [(.ref xa), (.int (0 : Int32)), (.int (4 : Int32))]) rfl (rC3_4 l Z a0 hw [] xa xk xc0 xc1 xc2 xc3 h0 Oh V_xa hc0_ hc1_ hc2_ hc3_) (W := 0) (by decide) hml (Ls := #[rv xs, rv xa, iv 0, iv 4, .val .null, uu]) rfl (rest := []) rfl rfl hby d2_36
  obtain ⟨nb1, nk1, rfl, K1, gn_nb1, V_nb1⟩ := hQ
  have ge_nb1 := Nat.le_trans K.le gn_nb1
  have ne_xs_nb1 : xs ≠ nb1 := Nat.ne_of_lt (Nat.lt_of_lt_of_le lt_xs gn_nb1)
  have ne_xa_nb1 : xa ≠ nb1 := Nat.ne_of_lt (Nat.lt_of_lt_of_le lt_xa gn_nb1)
  have K := K.call K1 all0
  refine oWk.st (fun _ kt => st _ (zT X hx hby d2_39 rfl rfl rfl (l' := #[rv xs, rv xa, iv 0, iv 4, .val .null, rv nb1]) rfl (zA X hx hby d2_41 rfl rfl rfl (zB X hx hby d2_42 rfl rfl rfl (zI X hx hby d2_44 rfl rfl kt))))) ?_
  have Oh := K.old O0 (allS og_xs all0)
  obtain ⟨T, L4, X, e0, K, st⟩ := (cs3 hw).pure X hx hZ hown e0 K (A := [(.ref nb1), (.int (4 : Int32))]) rfl (rCo_4 l Z a0 hw [] nb1 nk1 (xc0.toInt8.toInt32) (xc1.toInt8.toInt32) (xc2.toInt8.toInt32) (xc3.toInt8.toInt32) h Oh V_nb1) (fun _ _ _ q => q) (W := 1) (by decide) hml (Ls := #[rv xs, rv xa, iv 0, iv 4, .val .null, rv nb1]) rfl (rest := [(.ref xs)]) rfl rfl hby d2_45
  refine oWk.st (fun _ kt => st _ kt) ?_
  have E_xs := (E_xs.keep K1.1)
  have F_coder_xs := (F_coder_xs.keep K1.1 nin0)
  obtain ⟨T, h, X, e0, W5, st⟩ := putFN X hx hZ hown (oW hw 23 rfl) Via.refl e0 F_coder_xs E_xs (Or.inr ⟨(oW hw 19 rfl), rfl, hnm⟩) (oW hw 4 rfl) (ty := .byte) (v' := .int (0 : Int32)) (by decide) rfl (by decide) (g := (mkF m 48 #[rv xs, rv xa, iv 0, iv 4, .val .null, rv nb1] [(.int 0), (.ref xs)])) rfl rfl (hb hby d2_48)
  have K := K.wr W5 (Or.inl (List.mem_of_getElem? (i := 0) rfl))
  have F_coder_xs := F_coder_xs.same W5
  refine oWk.st (fun _ kt => st _ (zA X hx hby d2_51 rfl rfl rfl (zB X hx hby d2_52 rfl rfl rfl kt))) ?_
  have E_xs := (E_xs.wr W5)
  have F_value_xs := ((F_value_xs.keep K1.1 nin0).other W5 (Or.inr (slot_ne (Or.inr (oW hw 18 rfl)) (Or.inr (oW hw 19 rfl)) (by decide) (t := (.array .byte)) (t' := .byte) (by decide) (by decide))))
  obtain ⟨T, h, X, e0, W6, st⟩ := putF X hx hZ hown (host := "") (Or.inl (oW hw 22 rfl)) Via.refl e0 F_value_xs E_xs (Or.inr ⟨(oW hw 18 rfl), rfl, hnm⟩) (oW hw 4 rfl) (ty := (.array .byte)) (by decide) rfl rfl (g := (mkF m 54 #[rv xs, rv xa, iv 0, iv 4, .val .null, rv nb1] [(.ref nb1), (.ref xs)])) rfl rfl (hb hby d2_54)
  have K := K.wr W6 (Or.inl (List.mem_of_getElem? (i := 0) rfl))
  have F_value_xs := F_value_xs.same W6
  refine oWk.to (mkF m 57 #[rv xs, rv xa, iv 0, iv 4, .val .null, rv nb1] []) (fun _ kt => st _ kt) ?_
  have E_xs := (E_xs.wr W6)
  have F_coder_xs := (F_coder_xs.other W6 (Or.inr (slot_ne (Or.inr (oW hw 19 rfl)) (Or.inr (oW hw 18 rfl)) (by decide) (t := .byte) (t' := (.array .byte)) (by decide) (by decide))))
  have V_nb1 := ((V_nb1.other W5 (Ne.symm ne_xs_nb1)).other W6 (Ne.symm ne_xs_nb1))
  exact oRetV X hx hlk hret (hb hby d2_57) (by rw [e0]; exact ⟨nb1, nk1, rfl, K, E_xs, F_coder_xs, F_value_xs, ge_nb1, V_nb1⟩) (by decide) (by decide)
def Q_rI1_4 (Z : State) (xs xa : Addr) (xk : ClassId) (xz : Int32) (xu xv : Value) (xc0 xc1 xc2 xc3 : Int32) (h0 : Heap) (v : Option Value) (h : Heap) (L : List Loc) : Prop := ∃ (nb : Addr) (nk : ClassId), v = none ∧ oKp h0 h [xs] L ∧ (Exa Z h xs Y0) ∧ (Fld Z h xs Y0 "coder" "B" (.int (0 : Int32))) ∧ (Fld Z h xs Y0 "value" "[B" (.ref nb)) ∧ (h0.size ≤ nb) ∧ (Arv Z h nb nk .byte (4 : Int32) [(ib xc0), (ib xc1), (ib xc2), (ib xc3)] (.int (0 : Int32)))
theorem rI1_4 (l : Launch) (Z : State) (a0 : Array Value) (hw : oHW a0 Z) (ws : List Jvm.Cond) (xs xa : Addr) (xk : ClassId) (xz : Int32) (xu xv : Value) (xc0 xc1 xc2 xc3 : Int32) (h0 : Heap) (O0 : Ext Z.heap h0) (S_COMPACT_STRINGS : Sta Z Z.heap Y0 Y6 "Z" (.int xz)) (hz : ¬ xz = (0 : Int32)) (og_xs : Z.heap.size ≤ xs) (E_xs : Exa Z h0 xs Y0) (F_value_xs : Fld Z h0 xs Y0 "value" "[B" xu) (F_coder_xs : Fld Z h0 xs Y0 "coder" "B" xv) (V_xa : Arv Z h0 xa xk .char (4 : Int32) [(.int xc0), (.int xc1), (.int xc2), (.int xc3)] (.int (0 : Int32))) (hc0_ : ¬ (255 : Int32) < xc0) (hc1_ : ¬ (255 : Int32) < xc1) (hc2_ : ¬ (255 : Int32) < xc2) (hc3_ : ¬ (255 : Int32) < xc3) :
    oCon l Z yy4 jdk_42_method_3_code 2 none ws ({ frames := 3, cells := 1, slots := 4, locals := 52 } : Room) #[(.ref xs), (.ref xa)] h0 (Q_rI1_4 Z xs xa xk xz xu xv xc0 xc1 xc2 xc3 h0) := by
  refine oCon.of (plainFor_of_name pn_2) ?_
  intro p e s m below meth c T X hx hby hml hown hnm hret hlk hZ e0
  have hml : c.maxLocals = 2 := hml
  have K : oKp h0 h0 [xs] [] := oKp.nil _ _
  refine oWk.cast (g' := (mkF m 0 #[rv xs, rv xa] [])) (by first | rfl | (simp [entryFrame, mkF, argsToLocals, Value.category]; done)) ?_
  refine oWk.st (fun _ kt => zA X hx hby d1_0 rfl rfl rfl (zA X hx hby d1_1 rfl rfl rfl (zK X hx hby d1_2 rfl (zA X hx hby d1_3 rfl rfl rfl (oAl X hx hZ e0 V_xa hby d1_4 rfl rfl (XS.aconstNull X.here hx rfl (hb hby d1_5) kt)))))) ?_
  have lt_xs := E_xs.lt
  have lt_xa := V_xa.lt
  have Oh := K.old O0 (allS og_xs all0)
  obtain ⟨_, T, h, Lc3, X, e0, hQ, st⟩ := (cs4 hw).run X hx hZ hown e0 (A := [(.ref xs), (.ref xa), (.int (0 : Int32)), (.int (4 : Int32)), .null]) ⟨rfl, _, _, rfl⟩ (rI4_4 l Z a0 hw [] xs xa xk xz xu xv xc0 xc1 xc2 xc3 h0 Oh S_COMPACT_STRINGS hz og_xs E_xs F_value_xs F_coder_xs V_xa hc0_ hc1_ hc2_ hc3_) (W := 0) (by decide) hml (Ls := #[rv xs, rv xa]) rfl (rest := []) rfl rfl hby d1_6
  obtain ⟨nb2, nk2, rfl, K2, E_xs, F_coder_xs, F_value_xs, gn_nb2, V_nb2⟩ := hQ
  have ge_nb2 := Nat.le_trans K.le gn_nb2
  have ne_xs_nb2 : xs ≠ nb2 := Nat.ne_of_lt (Nat.lt_of_lt_of_le lt_xs gn_nb2)
  have ne_xa_nb2 : xa ≠ nb2 := Nat.ne_of_lt (Nat.lt_of_lt_of_le lt_xa gn_nb2)
  have K := K.call K2 (allS (Or.inl (List.mem_of_getElem? (i := 0) rfl)) all0)
  refine oWk.to (mkF m 9 #[rv xs, rv xa] []) (fun _ kt => st _ kt) ?_
  exact oRetV X hx hlk hret (hb hby d1_9) (by rw [e0]; exact ⟨nb2, nk2, rfl, K, E_xs, F_coder_xs, F_value_xs, ge_nb2, V_nb2⟩) (by decide) (by decide)
def Q_rC5U_1_0 (Z : State) (xa xd : Addr) (xk xl : ClassId) (xc0 : Int32) (h0 : Heap) (v : Option Value) (h : Heap) (L : List Loc) : Prop := v = some (.int (0 : Int32)) ∧ oKp h0 h [xd] L
theorem d8_23 : decode jdk_52_method_21_code 23 = .ok (.iload 5, 2) := by decide +kernel
theorem d8_25 : decode jdk_52_method_21_code 25 = .ok (.ireturn, 1) := by decide +kernel
theorem rC5U_1_0 (l : Launch) (Z : State) (a0 : Array Value) (hw : oHW a0 Z) (ws : List Jvm.Cond) (xa xd : Addr) (xk xl : ClassId) (xc0 : Int32) (h0 : Heap) (O0 : Ext Z.heap h0) (og_xd : Z.heap.size ≤ xd) (ne_xa_xd : xa ≠ xd) (V_xa : Arv Z h0 xa xk .char (1 : Int32) [(.int xc0)] (.int (0 : Int32))) (V_xd : Arv Z h0 xd xl .byte (1 : Int32) [(.int (0 : Int32))] (.int (0 : Int32))) (hgt : (255 : Int32) < xc0) :
    oCon l Z yy5 jdk_52_method_21_code 7 (some .int) ws ({ frames := 0, cells := 0, slots := 0, locals := 0 } : Room) #[(.ref xa), (.int (0 : Int32)), (.ref xd), (.int (0 : Int32)), (.int (1 : Int32))] h0 (Q_rC5U_1_0 Z xa xd xk xl xc0 h0) := by
  refine oCon.of (plainFor_of_name pn_3) ?_
  intro p e s m below meth c T X hx hby hml hown hnm hret hlk hZ e0
  have hml : c.maxLocals = 7 := hml
  have K : oKp h0 h0 [xd] [] := oKp.nil _ _
  refine oWk.cast (g' := (mkF m 0 #[rv xa, iv 0, rv xd, iv 0, iv 1, uu, uu] [])) (by first | rfl | (simp [entryFrame, mkF, argsToLocals, Value.category]; done)) ?_
  refine oWk.to (mkF m 12 #[rv xa, iv 0, rv xd, iv 0, iv 1, iv 0, uu] [(.int 0), (.ref xa)]) (fun _ kt => zK X hx hby d8_0 rfl (zS X hx hby d8_1 rfl rfl (l' := #[rv xa, iv 0, rv xd, iv 0, iv 1, iv 0, uu]) rfl (zJ X hx hby d8_3 rfl rfl (zJ X hx hby d8_5 rfl rfl (zN X hx hby d8_7 rfl rfl (tlt (by decide)).2.1 (zA X hx hby d8_10 rfl rfl rfl (zI X hx hby d8_11 rfl rfl kt))))))) ?_
  refine oWk.to (mkF m 20 #[rv xa, iv 0, rv xd, iv 0, iv 1, iv 0, iv xc0] [(.int 255), (.int xc0)]) (fun _ kt => oLdC X hx hZ e0 V_xa (0 : Int32) (.int xc0) ⟨by decide, by decide⟩ rfl hby d8_12 rfl rfl (zS X hx hby d8_13 rfl rfl (l' := #[rv xa, iv 0, rv xd, iv 0, iv 1, iv 0, iv xc0]) rfl (zJ X hx hby d8_15 rfl rfl (zM X hx hby d8_17 rfl kt)))) ?_
  refine oWk.to (mkF m 25 #[rv xa, iv 0, rv xd, iv 0, iv 1, iv 0, iv xc0] [(.int 0)]) (fun _ kt => zN X hx hby d8_20 rfl rfl (tlt hgt).2.2.2 (zJ X hx hby d8_23 rfl rfl kt)) ?_
  exact oRetI X hx hlk hret (hb hby d8_25) (by rw [e0]; exact ⟨rfl, K⟩) (by decide) (by decide)
def Q_rNBL_1 (Z : State)  (h0 : Heap) (v : Option Value) (h : Heap) (L : List Loc) : Prop := v = some (.int (2 : Int32)) ∧ h = h0 ∧ oKp h0 h [] L
abbrev yy8 : MethodName := ⟨"java/lang/StringUTF16", "newBytesLength", "(I)I"⟩
theorem d21_0 : decode jdk_52_method_3_code 0 = .ok (.iload_n 0, 1) := by decide +kernel
theorem d21_1 : decode jdk_52_method_3_code 1 = .ok (.ifCond .ge 11, 3) := by decide +kernel
theorem d21_12 : decode jdk_52_method_3_code 12 = .ok (.iload_n 0, 1) := by decide +kernel
theorem d21_13 : decode jdk_52_method_3_code 13 = .ok (.ldc 20, 2) := by decide +kernel
theorem d21_15 : decode jdk_52_method_3_code 15 = .ok (.if_icmp .lt 40, 3) := by decide +kernel
theorem d21_55 : decode jdk_52_method_3_code 55 = .ok (.iload_n 0, 1) := by decide +kernel
theorem d21_56 : decode jdk_52_method_3_code 56 = .ok (.iconst 1, 1) := by decide +kernel
theorem d21_57 : decode jdk_52_method_3_code 57 = .ok (.ishl, 1) := by decide +kernel
theorem d21_58 : decode jdk_52_method_3_code 58 = .ok (.ireturn, 1) := by decide +kernel
theorem rNBL_1 (l : Launch) (Z : State) (a0 : Array Value) (hw : oHW a0 Z) (ws : List Jvm.Cond)  (h0 : Heap) (O0 : Ext Z.heap h0)  :
    oCon l Z yy8 jdk_52_method_3_code 1 (some .int) ws ({ frames := 0, cells := 0, slots := 0, locals := 0 } : Room) #[(.int (1 : Int32))] h0 (Q_rNBL_1 Z  h0) := by
  refine oCon.of (plainFor_of_name pn_3) ?_
  intro p e s m below meth c T X hx hby hml hown hnm hret hlk hZ e0
  have hml : c.maxLocals = 1 := hml
  have K : oKp h0 h0 [] [] := oKp.nil _ _
  refine oWk.cast (g' := (mkF m 0 #[iv 1] [])) (by first | rfl | (simp [entryFrame, mkF, argsToLocals, Value.category]; done)) ?_
  refine oWk.st (fun _ kt => zI X hx hby d21_0 rfl rfl (zF X hx hby d21_1 rfl rfl ((if0 _ _).trans (flt (by decide)).2.1) (pc' := 12) rfl (zI X hx hby d21_12 rfl rfl kt))) ?_
  refine oWk.to (mkF m 58 #[iv 1] [(.int 2)]) (fun _ kt => X.ldcI hx hown (mvT hZ (oW hw 96 rfl)) rfl (hb hby d21_13) (zY X hx hby d21_15 rfl rfl (tlt (by decide)).1 (pc' := 55) rfl (zI X hx hby d21_55 rfl rfl (zK X hx hby d21_56 rfl (XS.ishl X.here hx rfl (hb hby d21_57) rfl kt))))) ?_
  exact oRetI X hx hlk hret (hb hby d21_58) (by rw [e0]; exact ⟨rfl, rfl, K⟩) (by decide) (by decide)
def Q_rNBF_1 (Z : State)  (h0 : Heap) (v : Option Value) (h : Heap) (L : List Loc) : Prop := ∃ (nb : Addr) (nk : ClassId), v = some (.ref nb) ∧ oKp h0 h [] L ∧ (h0.size ≤ nb) ∧ (Arv Z h nb nk .byte (2 : Int32) [(.int (0 : Int32)), (.int (0 : Int32))] (.int (0 : Int32)))
abbrev yy9 : MethodName := ⟨"java/lang/StringUTF16", "newBytesFor", "(I)[B"⟩
theorem d20_0 : decode jdk_52_method_2_code 0 = .ok (.iload_n 0, 1) := by decide +kernel
theorem d20_1 : decode jdk_52_method_2_code 1 = .ok (.invokestatic 11, 3) := by decide +kernel
theorem pd_5 : parseMethodDescriptor "(I)I" = some ⟨[.int], some .int⟩ := by decide +kernel
theorem cs5 {a0 : Array Value} {Z : State} (hw : oHW a0 Z) : oCall Z Y1 (.invokestatic 11) yy8 jdk_52_method_3_code 1 (some .int) (oRs 1) := oCall.stat (oW hw 93 rfl) (oW hw 94 rfl) (oW hw 40 rfl) (oW hw 95 rfl) (by decide) pd_5
theorem d20_4 : decode jdk_52_method_2_code 4 = .ok (.newarray .byte, 2) := by decide +kernel
theorem d20_6 : decode jdk_52_method_2_code 6 = .ok (.areturn, 1) := by decide +kernel
theorem rNBF_1 (l : Launch) (Z : State) (a0 : Array Value) (hw : oHW a0 Z) (ws : List Jvm.Cond)  (h0 : Heap) (O0 : Ext Z.heap h0)  :
    oCon l Z yy9 jdk_52_method_2_code 1 (some (.array .byte)) ws ({ frames := 1, cells := 1, slots := 2, locals := 12 } : Room) #[(.int (1 : Int32))] h0 (Q_rNBF_1 Z  h0) := by
  refine oCon.of (plainFor_of_name pn_3) ?_
  intro p e s m below meth c T X hx hby hml hown hnm hret hlk hZ e0
  have hml : c.maxLocals = 1 := hml
  have K : oKp h0 h0 [] [] := oKp.nil _ _
  refine oWk.cast (g' := (mkF m 0 #[iv 1] [])) (by first | rfl | (simp [entryFrame, mkF, argsToLocals, Value.category]; done)) ?_
  refine oWk.st (fun _ kt => zI X hx hby d20_0 rfl rfl kt) ?_
  have Oh := K.old O0 all0
  obtain ⟨T, L2, X, e0, K, st⟩ := (cs5 hw).pure X hx hZ hown e0 K (A := [(.int (1 : Int32))]) rfl (rNBL_1 l Z a0 hw []  h0 Oh ) (fun _ _ _ q => q) (W := 0) (by decide) hml (Ls := #[iv 1]) rfl (rest := []) rfl rfl hby d20_1
  refine oWk.st (fun _ kt => st _ kt) ?_
  obtain ⟨o3, g3⟩ : ∃ z, z = h0.size := ⟨_, rfl⟩
  have ge_o3 : h0.size ≤ o3 := Nat.le_trans K.le (Nat.le_of_eq g3.symm)
  obtain ⟨T, h, k3, X, e0, E3, A3, st⟩ := newP X hx hZ (oW hw 17 rfl) e0 (g := (mkF m 4 #[iv 1] [(.int 2)])) rfl (hb hby d20_4) rfl (by decide) (cap := 2) (by decide) (by decide) (by decide) (by decide)
  rw [← g3] at A3 st
  have K := K.ext E3
  have V_o3 : Arv Z h o3 k3 .byte (2 : Int32) [(.int (0 : Int32)), (.int (0 : Int32))] (.int (0 : Int32)) := (Arv.new A3 (by decide)).pad (pad_rep [] (.int (0 : Int32)) 2)
  refine oWk.to (mkF m 6 #[iv 1] [(.ref o3)]) (fun _ kt => st _ kt) ?_
  exact oRetA X hx hlk hret rfl rfl (hb hby d20_6) (by rw [e0]; exact ⟨o3, k3, rfl, K, ge_o3, V_o3⟩) (by decide) (by decide)
def Q_rPut_1_0 (Z : State) (xb : Addr) (xk : ClassId) (xp xy0 xy1 : Int32) (h0 : Heap) (v : Option Value) (h : Heap) (L : List Loc) : Prop := v = none ∧ oKp h0 h [xb] L ∧ (Arv Z h xb xk .byte (2 : Int32) [(iu0 xp), (iu8 xp)] (.int (0 : Int32)))
abbrev yy10 : MethodName := ⟨"java/lang/StringUTF16", "putChar", "([BII)V"⟩
theorem d22_0 : decode jdk_52_method_4_code 0 = .ok (.getstatic 44, 3) := by decide +kernel
theorem d22_3 : decode jdk_52_method_4_code 3 = .ok (.ifCond .ne 25, 3) := by decide +kernel
theorem d22_28 : decode jdk_52_method_4_code 28 = .ok (.iload_n 1, 1) := by decide +kernel
theorem d22_29 : decode jdk_52_method_4_code 29 = .ok (.iconst 1, 1) := by decide +kernel
theorem d22_30 : decode jdk_52_method_4_code 30 = .ok (.ishl, 1) := by decide +kernel
theorem d22_31 : decode jdk_52_method_4_code 31 = .ok (.istore_n 1, 1) := by decide +kernel
theorem d22_32 : decode jdk_52_method_4_code 32 = .ok (.aload_n 0, 1) := by decide +kernel
theorem d22_33 : decode jdk_52_method_4_code 33 = .ok (.iload_n 1, 1) := by decide +kernel
theorem d22_34 : decode jdk_52_method_4_code 34 = .ok (.iinc 1 1, 3) := by decide +kernel
theorem d22_37 : decode jdk_52_method_4_code 37 = .ok (.iload_n 2, 1) := by decide +kernel
theorem d22_38 : decode jdk_52_method_4_code 38 = .ok (.getstatic 59, 3) := by decide +kernel
theorem d22_41 : decode jdk_52_method_4_code 41 = .ok (.ishr, 1) := by decide +kernel
theorem d22_42 : decode jdk_52_method_4_code 42 = .ok (.i2b, 1) := by decide +kernel
theorem d22_43 : decode jdk_52_method_4_code 43 = .ok (.bastore, 1) := by decide +kernel
theorem d22_44 : decode jdk_52_method_4_code 44 = .ok (.aload_n 0, 1) := by decide +kernel
theorem d22_45 : decode jdk_52_method_4_code 45 = .ok (.iload_n 1, 1) := by decide +kernel
theorem d22_46 : decode jdk_52_method_4_code 46 = .ok (.iload_n 2, 1) := by decide +kernel
theorem d22_47 : decode jdk_52_method_4_code 47 = .ok (.getstatic 63, 3) := by decide +kernel
theorem d22_50 : decode jdk_52_method_4_code 50 = .ok (.ishr, 1) := by decide +kernel
theorem d22_51 : decode jdk_52_method_4_code 51 = .ok (.i2b, 1) := by decide +kernel
theorem d22_52 : decode jdk_52_method_4_code 52 = .ok (.bastore, 1) := by decide +kernel
theorem d22_53 : decode jdk_52_method_4_code 53 = .ok (.return_, 1) := by decide +kernel
theorem rPut_1_0 (l : Launch) (Z : State) (a0 : Array Value) (hw : oHW a0 Z) (ws : List Jvm.Cond) (xb : Addr) (xk : ClassId) (xp xy0 xy1 : Int32) (h0 : Heap) (O0 : Ext Z.heap h0) (S__assertionsDisabled : Sta Z Z.heap Y1 Y3 "Z" (.int (1 : Int32))) (S_HI_BYTE_SHIFT : Sta Z Z.heap Y1 "HI_BYTE_SHIFT" "I" (.int (0 : Int32))) (S_LO_BYTE_SHIFT : Sta Z Z.heap Y1 "LO_BYTE_SHIFT" "I" (.int (8 : Int32))) (og_xb : Z.heap.size ≤ xb) (V_xb : Arv Z h0 xb xk .byte (2 : Int32) [(.int xy0), (.int xy1)] (.int (0 : Int32))) :
    oCon l Z yy10 jdk_52_method_4_code 3 none ws ({ frames := 0, cells := 0, slots := 0, locals := 0 } : Room) #[(.ref xb), (.int (0 : Int32)), (.int xp)] h0 (Q_rPut_1_0 Z xb xk xp xy0 xy1 h0) := by
  refine oCon.of (plainFor_of_name pn_3) ?_
  intro p e s m below meth c T X hx hby hml hown hnm hret hlk hZ e0
  have hml : c.maxLocals = 3 := hml
  have K : oKp h0 h0 [xb] [] := oKp.nil _ _
  refine oWk.cast (g' := (mkF m 0 #[rv xb, iv 0, iv xp] [])) (by first | rfl | (simp [entryFrame, mkF, argsToLocals, Value.category]; done)) ?_
  have Oh := K.old O0 (allS og_xb all0)
  obtain ⟨T, X, e0, st⟩ := getS2 X hx hZ hown (host := "") (Or.inl (oW hw 100 rfl)) Via.refl e0 (S__assertionsDisabled.ext Oh) (g := (mkF m 0 #[rv xb, iv 0, iv xp] [])) rfl (hb hby d22_0)
  refine oWk.to (mkF m 33 #[rv xb, iv 0, iv xp] [(.ref xb)]) (fun _ kt => st _ (zF X hx hby d22_3 rfl rfl ((if0 _ _).trans (feq (by decide)).2) (pc' := 28) rfl (zI X hx hby d22_28 rfl rfl (zK X hx hby d22_29 rfl (XS.ishl X.here hx rfl (hb hby d22_30) rfl (zSn X hx hby d22_31 rfl rfl (l' := #[rv xb, iv 0, iv xp]) rfl (zA X hx hby d22_32 rfl rfl rfl kt))))))) ?_
  refine oWk.st (fun _ kt => zI X hx hby d22_33 rfl rfl (zC X hx hby d22_34 rfl rfl (l' := #[rv xb, iv ((0 : Int32) + (1 : Int32)), iv xp]) rfl (zI X hx hby d22_37 rfl rfl kt))) ?_
  obtain ⟨T, X, e0, st⟩ := getS2 X hx hZ hown (host := "") (Or.inl (oW hw 101 rfl)) Via.refl e0 (S_HI_BYTE_SHIFT.ext Oh) (g := (mkF m 38 #[rv xb, iv 1, iv xp] [(.int xp), (.int 0), (.ref xb)])) rfl (hb hby d22_38)
  refine oWk.st (fun _ kt => st _ (XS.ishr X.here hx rfl (hb hby d22_41) rfl (XS.i2b X.here hx rfl (hb hby d22_42) rfl kt))) ?_
  obtain ⟨cl1, Ar1, q1, Sz1, Nn1, Hs1, Ft1⟩ := id V_xb
  have hin1 : ¬ ((0 : Int32) < 0 ∨ cl1.slots.size ≤ ((0 : Int32)).toNatClampNeg) := inb_of Sz1 ⟨by decide, by decide⟩
  obtain ⟨T, h, X, e0, W1, st⟩ := stB X hx hZ e0 Ar1 (j := (0 : Int32)) hin1 (g := (mkF m 43 #[rv xb, iv 1, iv xp] [(iu0 xp), (.int 0), (.ref xb)])) rfl rfl (hb hby d22_43)
  have K := K.wr W1 (Or.inl (List.mem_of_getElem? (i := 0) rfl))
  have V_xb := Arv.set Ar1 q1 Sz1 Nn1 Hs1 Ft1 (fits_nar_byte _) W1 0 rfl (Nat.le_of_ble_eq_true rfl)
  rw [oB8 (xp >>> ((0 : Int32) &&& 31))] at V_xb
  replace V_xb : Arv Z h xb xk .byte (2 : Int32) [(iu0 xp), (.int xy1)] (.int (0 : Int32)) := V_xb
  refine oWk.st (fun _ kt => st _ (zA X hx hby d22_44 rfl rfl rfl (zI X hx hby d22_45 rfl rfl (zI X hx hby d22_46 rfl rfl kt)))) ?_
  have Oh := K.old O0 (allS og_xb all0)
  obtain ⟨T, X, e0, st⟩ := getS2 X hx hZ hown (host := "") (Or.inl (oW hw 102 rfl)) Via.refl e0 (S_LO_BYTE_SHIFT.ext Oh) (g := (mkF m 47 #[rv xb, iv 1, iv xp] [(.int xp), (.int 1), (.ref xb)])) rfl (hb hby d22_47)
  refine oWk.st (fun _ kt => st _ (XS.ishr X.here hx rfl (hb hby d22_50) rfl (XS.i2b X.here hx rfl (hb hby d22_51) rfl kt))) ?_
  obtain ⟨cl2, Ar2, q2, Sz2, Nn2, Hs2, Ft2⟩ := id V_xb
  have hin2 : ¬ ((1 : Int32) < 0 ∨ cl2.slots.size ≤ ((1 : Int32)).toNatClampNeg) := inb_of Sz2 ⟨by decide, by decide⟩
  obtain ⟨T, h, X, e0, W2, st⟩ := stB X hx hZ e0 Ar2 (j := (1 : Int32)) hin2 (g := (mkF m 52 #[rv xb, iv 1, iv xp] [(iu8 xp), (.int 1), (.ref xb)])) rfl rfl (hb hby d22_52)
  have K := K.wr W2 (Or.inl (List.mem_of_getElem? (i := 0) rfl))
  have V_xb := Arv.set Ar2 q2 Sz2 Nn2 Hs2 Ft2 (fits_nar_byte _) W2 1 rfl (Nat.le_of_ble_eq_true rfl)
  rw [oB8 (xp >>> ((8 : Int32) &&& 31))] at V_xb
  replace V_xb : Arv Z h xb xk .byte (2 : Int32) [(iu0 xp), (iu8 xp)] (.int (0 : Int32)) := V_xb
  refine oWk.to (mkF m 53 #[rv xb, iv 1, iv xp] []) (fun _ kt => st _ kt) ?_
  exact oRetV X hx hlk hret (hb hby d22_53) (by rw [e0]; exact ⟨rfl, K, V_xb⟩) (by decide) (by decide)
def Q_rTBU_1 (Z : State) (xa : Addr) (xk : ClassId) (xc0 : Int32) (h0 : Heap) (v : Option Value) (h : Heap) (L : List Loc) : Prop := ∃ (nb : Addr) (nk : ClassId), v = some (.ref nb) ∧ oKp h0 h [] L ∧ (h0.size ≤ nb) ∧ (Arv Z h nb nk .byte (2 : Int32) [(iu0 xc0), (iu8 xc0)] (.int (0 : Int32)))
abbrev yy11 : MethodName := ⟨"java/lang/StringUTF16", "toBytes", "([CII)[B"⟩
theorem d19_0 : decode jdk_52_method_14_code 0 = .ok (.iload_n 2, 1) := by decide +kernel
theorem d19_1 : decode jdk_52_method_14_code 1 = .ok (.invokestatic 107, 3) := by decide +kernel
theorem pd_6 : parseMethodDescriptor "(I)[B" = some ⟨[.int], some (.array .byte)⟩ := by decide +kernel
theorem cs6 {a0 : Array Value} {Z : State} (hw : oHW a0 Z) : oCall Z Y1 (.invokestatic 107) yy9 jdk_52_method_2_code 1 (some (.array .byte)) (oRs 1) := oCall.stat (oW hw 90 rfl) (oW hw 91 rfl) (oW hw 40 rfl) (oW hw 92 rfl) (by decide) pd_6
theorem d19_4 : decode jdk_52_method_14_code 4 = .ok (.astore_n 3, 1) := by decide +kernel
theorem d19_5 : decode jdk_52_method_14_code 5 = .ok (.iconst 0, 1) := by decide +kernel
theorem d19_6 : decode jdk_52_method_14_code 6 = .ok (.istore 4, 2) := by decide +kernel
theorem d19_8 : decode jdk_52_method_14_code 8 = .ok (.iload 4, 2) := by decide +kernel
theorem d19_10 : decode jdk_52_method_14_code 10 = .ok (.iload_n 2, 1) := by decide +kernel
theorem d19_11 : decode jdk_52_method_14_code 11 = .ok (.if_icmp .ge 21, 3) := by decide +kernel
theorem d19_14 : decode jdk_52_method_14_code 14 = .ok (.aload_n 3, 1) := by decide +kernel
theorem d19_15 : decode jdk_52_method_14_code 15 = .ok (.iload 4, 2) := by decide +kernel
theorem d19_17 : decode jdk_52_method_14_code 17 = .ok (.aload_n 0, 1) := by decide +kernel
theorem d19_18 : decode jdk_52_method_14_code 18 = .ok (.iload_n 1, 1) := by decide +kernel
theorem d19_19 : decode jdk_52_method_14_code 19 = .ok (.caload, 1) := by decide +kernel
theorem d19_20 : decode jdk_52_method_14_code 20 = .ok (.invokestatic 111, 3) := by decide +kernel
theorem pd_7 : parseMethodDescriptor "([BII)V" = some ⟨[(.array .byte), .int, .int], none⟩ := by decide +kernel
theorem cs7 {a0 : Array Value} {Z : State} (hw : oHW a0 Z) : oCall Z Y1 (.invokestatic 111) yy10 jdk_52_method_4_code 3 none (oRs 3) := oCall.stat (oW hw 97 rfl) (oW hw 98 rfl) (oW hw 40 rfl) (oW hw 99 rfl) (by decide) pd_7
theorem d19_23 : decode jdk_52_method_14_code 23 = .ok (.iinc 1 1, 3) := by decide +kernel
theorem d19_26 : decode jdk_52_method_14_code 26 = .ok (.iinc 4 1, 3) := by decide +kernel
theorem d19_29 : decode jdk_52_method_14_code 29 = .ok (.goto (-21), 3) := by decide +kernel
theorem d19_32 : decode jdk_52_method_14_code 32 = .ok (.aload_n 3, 1) := by decide +kernel
theorem d19_33 : decode jdk_52_method_14_code 33 = .ok (.areturn, 1) := by decide +kernel
theorem rTBU_1 (l : Launch) (Z : State) (a0 : Array Value) (hw : oHW a0 Z) (ws : List Jvm.Cond) (xa : Addr) (xk : ClassId) (xc0 : Int32) (h0 : Heap) (O0 : Ext Z.heap h0) (S__assertionsDisabled : Sta Z Z.heap Y1 Y3 "Z" (.int (1 : Int32))) (S_HI_BYTE_SHIFT : Sta Z Z.heap Y1 "HI_BYTE_SHIFT" "I" (.int (0 : Int32))) (S_LO_BYTE_SHIFT : Sta Z Z.heap Y1 "LO_BYTE_SHIFT" "I" (.int (8 : Int32))) (V_xa : Arv Z h0 xa xk .char (1 : Int32) [(.int xc0)] (.int (0 : Int32))) :
    oCon l Z yy11 jdk_52_method_14_code 5 (some (.array .byte)) ws ({ frames := 2, cells := 1, slots := 2, locals := 24 } : Room) #[(.ref xa), (.int (0 : Int32)), (.int (1 : Int32))] h0 (Q_rTBU_1 Z xa xk xc0 h0) := by
  refine oCon.of (plainFor_of_name pn_3) ?_
  intro p e s m below meth c T X hx hby hml hown hnm hret hlk hZ e0
  have hml : c.maxLocals = 5 := hml
  have K : oKp h0 h0 [] [] := oKp.nil _ _
  refine oWk.cast (g' := (mkF m 0 #[rv xa, iv 0, iv 1, uu, uu] [])) (by first | rfl | (simp [entryFrame, mkF, argsToLocals, Value.category]; done)) ?_
  refine oWk.st (fun _ kt => zI X hx hby d19_0 rfl rfl kt) ?_
  have lt_xa := V_xa.lt
  have Oh := K.old O0 all0
  obtain ⟨_, T, h, Lc2, X, e0, hQ, st⟩ := (cs6 hw).run X hx hZ hown e0 (A := [(.int (1 : Int32))]) rfl (rNBF_1 l Z a0 hw []  h0 Oh ) (W := 0) (by decide) hml (Ls := #[rv xa, iv 0, iv 1, uu, uu]) rfl (rest := []) rfl rfl hby d19_1
  obtain ⟨nb1, nk1, rfl, K1, gn_nb1, V_nb1⟩ := hQ
  have ge_nb1 := Nat.le_trans K.le gn_nb1
  have ne_xa_nb1 : xa ≠ nb1 := Nat.ne_of_lt (Nat.lt_of_lt_of_le lt_xa gn_nb1)
  have K := K.call K1 all0
  refine oWk.to (mkF m 14 #[rv xa, iv 0, iv 1, rv nb1, iv 0] []) (fun _ kt => st _ (zTn X hx hby d19_4 rfl rfl rfl (l' := #[rv xa, iv 0, iv 1, rv nb1, uu]) rfl (zK X hx hby d19_5 rfl (zS X hx hby d19_6 rfl rfl (l' := #[rv xa, iv 0, iv 1, rv nb1, iv 0]) rfl (zJ X hx hby d19_8 rfl rfl (zI X hx hby d19_10 rfl rfl (zN X hx hby d19_11 rfl rfl (tlt (by decide)).2.1 kt))))))) ?_
  refine oWk.st (fun _ kt => zA X hx hby d19_14 rfl rfl rfl (zJ X hx hby d19_15 rfl rfl (zA X hx hby d19_17 rfl rfl rfl (zI X hx hby d19_18 rfl rfl kt)))) ?_
  have V_xa := (V_xa.keep K1.1 nin0)
  refine oWk.st (fun _ kt => oLdC X hx hZ e0 V_xa (0 : Int32) (.int xc0) ⟨by decide, by decide⟩ rfl hby d19_19 rfl rfl kt) ?_
  have Oh := K.old O0 all0
  obtain ⟨_, T, h, Lc5, X, e0, hQ, st⟩ := (cs7 hw).run X hx hZ hown e0 (A := [(.ref nb1), (.int (0 : Int32)), (.int xc0)]) rfl (rPut_1_0 l Z a0 hw [] nb1 nk1 xc0 (0 : Int32) (0 : Int32) h Oh S__assertionsDisabled S_HI_BYTE_SHIFT S_LO_BYTE_SHIFT (Nat.le_trans O0.1 ge_nb1) V_nb1) (W := 0) (by decide) hml (Ls := #[rv xa, iv 0, iv 1, rv nb1, iv 0]) rfl (rest := []) rfl rfl hby d19_20
  obtain ⟨rfl, K4, V_nb1⟩ := hQ
  have K := K.call K4 (allS (Or.inr ge_nb1) all0)
  refine oWk.to (mkF m 32 #[rv xa, iv 1, iv 1, rv nb1, iv 1] []) (fun _ kt => st _ (zC X hx hby d19_23 rfl rfl (l' := #[rv xa, iv ((0 : Int32) + (1 : Int32)), iv 1, rv nb1, iv 0]) rfl (zC X hx hby d19_26 rfl rfl (l' := #[rv xa, iv 1, iv 1, rv nb1, iv ((0 : Int32) + (1 : Int32))]) rfl (zG X hx hby d19_29 rfl (pc' := 8) rfl (zJ X hx hby d19_8 rfl rfl (zI X hx hby d19_10 rfl rfl (zY X hx hby d19_11 rfl rfl (flt (by decide)).2.1 (pc' := 32) rfl kt))))))) ?_
  refine oWk.to (mkF m 33 #[rv xa, iv 1, iv 1, rv nb1, iv 1] [(.ref nb1)]) (fun _ kt => zA X hx hby d19_32 rfl rfl rfl kt) ?_
  exact oRetA X hx hlk hret rfl rfl (hb hby d19_33) (by rw [e0]; exact ⟨nb1, nk1, rfl, K, ge_nb1, V_nb1⟩) (by decide) (by decide)
def Q_rGC_1_0 (Z : State) (xb : Addr) (xk : ClassId) (xc0 : Int32) (h0 : Heap) (v : Option Value) (h : Heap) (L : List Loc) : Prop := v = some (.int xc0) ∧ h = h0 ∧ oKp h0 h [] L
abbrev yy12 : MethodName := ⟨"java/lang/StringUTF16", "getChar", "([BI)C"⟩
theorem d23_0 : decode jdk_52_method_5_code 0 = .ok (.getstatic 44, 3) := by decide +kernel
theorem d23_3 : decode jdk_52_method_5_code 3 = .ok (.ifCond .ne 25, 3) := by decide +kernel
theorem d23_28 : decode jdk_52_method_5_code 28 = .ok (.iload_n 1, 1) := by decide +kernel
theorem d23_29 : decode jdk_52_method_5_code 29 = .ok (.iconst 1, 1) := by decide +kernel
theorem d23_30 : decode jdk_52_method_5_code 30 = .ok (.ishl, 1) := by decide +kernel
theorem d23_31 : decode jdk_52_method_5_code 31 = .ok (.istore_n 1, 1) := by decide +kernel
theorem d23_32 : decode jdk_52_method_5_code 32 = .ok (.aload_n 0, 1) := by decide +kernel
theorem d23_33 : decode jdk_52_method_5_code 33 = .ok (.iload_n 1, 1) := by decide +kernel
theorem d23_34 : decode jdk_52_method_5_code 34 = .ok (.iinc 1 1, 3) := by decide +kernel
theorem d23_37 : decode jdk_52_method_5_code 37 = .ok (.baload, 1) := by decide +kernel
theorem d23_38 : decode jdk_52_method_5_code 38 = .ok (.sipush 255, 3) := by decide +kernel
theorem d23_41 : decode jdk_52_method_5_code 41 = .ok (.iand, 1) := by decide +kernel
theorem d23_42 : decode jdk_52_method_5_code 42 = .ok (.getstatic 59, 3) := by decide +kernel
theorem d23_45 : decode jdk_52_method_5_code 45 = .ok (.ishl, 1) := by decide +kernel
theorem d23_46 : decode jdk_52_method_5_code 46 = .ok (.aload_n 0, 1) := by decide +kernel
theorem d23_47 : decode jdk_52_method_5_code 47 = .ok (.iload_n 1, 1) := by decide +kernel
theorem d23_48 : decode jdk_52_method_5_code 48 = .ok (.baload, 1) := by decide +kernel
theorem d23_49 : decode jdk_52_method_5_code 49 = .ok (.sipush 255, 3) := by decide +kernel
theorem d23_52 : decode jdk_52_method_5_code 52 = .ok (.iand, 1) := by decide +kernel
theorem d23_53 : decode jdk_52_method_5_code 53 = .ok (.getstatic 63, 3) := by decide +kernel
theorem d23_56 : decode jdk_52_method_5_code 56 = .ok (.ishl, 1) := by decide +kernel
theorem d23_57 : decode jdk_52_method_5_code 57 = .ok (.ior, 1) := by decide +kernel
theorem d23_58 : decode jdk_52_method_5_code 58 = .ok (.i2c, 1) := by decide +kernel
theorem d23_59 : decode jdk_52_method_5_code 59 = .ok (.ireturn, 1) := by decide +kernel
theorem rGC_1_0 (l : Launch) (Z : State) (a0 : Array Value) (hw : oHW a0 Z) (ws : List Jvm.Cond) (xb : Addr) (xk : ClassId) (xc0 : Int32) (h0 : Heap) (O0 : Ext Z.heap h0) (S__assertionsDisabled : Sta Z Z.heap Y1 Y3 "Z" (.int (1 : Int32))) (S_HI_BYTE_SHIFT : Sta Z Z.heap Y1 "HI_BYTE_SHIFT" "I" (.int (0 : Int32))) (S_LO_BYTE_SHIFT : Sta Z Z.heap Y1 "LO_BYTE_SHIFT" "I" (.int (8 : Int32))) (hr : 0 ≤ xc0.toInt ∧ xc0.toInt < 65536) (V_xb : Arv Z h0 xb xk .byte (2 : Int32) [(iu0 xc0), (iu8 xc0)] (.int (0 : Int32))) :
    oCon l Z yy12 jdk_52_method_5_code 2 (some .char) ws ({ frames := 0, cells := 0, slots := 0, locals := 0 } : Room) #[(.ref xb), (.int (0 : Int32))] h0 (Q_rGC_1_0 Z xb xk xc0 h0) := by
  refine oCon.of (plainFor_of_name pn_3) ?_
  intro p e s m below meth c T X hx hby hml hown hnm hret hlk hZ e0
  have hml : c.maxLocals = 2 := hml
  have K : oKp h0 h0 [] [] := oKp.nil _ _
  refine oWk.cast (g' := (mkF m 0 #[rv xb, iv 0] [])) (by first | rfl | (simp [entryFrame, mkF, argsToLocals, Value.category]; done)) ?_
  have Oh := K.old O0 all0
  obtain ⟨T, X, e0, st⟩ := getS2 X hx hZ hown (host := "") (Or.inl (oW hw 100 rfl)) Via.refl e0 (S__assertionsDisabled.ext Oh) (g := (mkF m 0 #[rv xb, iv 0] [])) rfl (hb hby d23_0)
  refine oWk.to (mkF m 33 #[rv xb, iv 0] [(.ref xb)]) (fun _ kt => st _ (zF X hx hby d23_3 rfl rfl ((if0 _ _).trans (feq (by decide)).2) (pc' := 28) rfl (zI X hx hby d23_28 rfl rfl (zK X hx hby d23_29 rfl (XS.ishl X.here hx rfl (hb hby d23_30) rfl (zSn X hx hby d23_31 rfl rfl (l' := #[rv xb, iv 0]) rfl (zA X hx hby d23_32 rfl rfl rfl kt))))))) ?_
  refine oWk.st (fun _ kt => zI X hx hby d23_33 rfl rfl (zC X hx hby d23_34 rfl rfl (l' := #[rv xb, iv ((0 : Int32) + (1 : Int32))]) rfl (oLdB X hx hZ e0 V_xb (0 : Int32) (iu0 xc0) ⟨by decide, by decide⟩ rfl hby d23_37 rfl rfl (zM X hx hby d23_38 rfl (XS.iand X.here hx rfl (hb hby d23_41) rfl kt))))) ?_
  obtain ⟨T, X, e0, st⟩ := getS2 X hx hZ hown (host := "") (Or.inl (oW hw 101 rfl)) Via.refl e0 (S_HI_BYTE_SHIFT.ext Oh) (g := (mkF m 42 #[rv xb, iv 1] [(.int (((xc0 >>> ((0 : Int32) &&& 31)).toInt8.toInt32) &&& (255 : Int32)))])) rfl (hb hby d23_42)
  refine oWk.to (mkF m 53 #[rv xb, iv 1] [(.int (((xc0 >>> ((8 : Int32) &&& 31)).toInt8.toInt32) &&& (255 : Int32))), (.int ((((xc0 >>> ((0 : Int32) &&& 31)).toInt8.toInt32) &&& (255 : Int32)) <<< ((0 : Int32) &&& 31)))]) (fun _ kt => st _ (XS.ishl X.here hx rfl (hb hby d23_45) rfl (zA X hx hby d23_46 rfl rfl rfl (zI X hx hby d23_47 rfl rfl (oLdB X hx hZ e0 V_xb (1 : Int32) (iu8 xc0) ⟨by decide, by decide⟩ rfl hby d23_48 rfl rfl (zM X hx hby d23_49 rfl (XS.iand X.here hx rfl (hb hby d23_52) rfl kt))))))) ?_
  obtain ⟨T, X, e0, st⟩ := getS2 X hx hZ hown (host := "") (Or.inl (oW hw 102 rfl)) Via.refl e0 (S_LO_BYTE_SHIFT.ext Oh) (g := (mkF m 53 #[rv xb, iv 1] [(.int (((xc0 >>> ((8 : Int32) &&& 31)).toInt8.toInt32) &&& (255 : Int32))), (.int ((((xc0 >>> ((0 : Int32) &&& 31)).toInt8.toInt32) &&& (255 : Int32)) <<< ((0 : Int32) &&& 31)))])) rfl (hb hby d23_53)
  refine oWk.to (mkF m 59 #[rv xb, iv 1] [(.int ((((((xc0 >>> ((0 : Int32) &&& 31)).toInt8.toInt32) &&& (255 : Int32)) <<< ((0 : Int32) &&& 31)) ||| ((((xc0 >>> ((8 : Int32) &&& 31)).toInt8.toInt32) &&& (255 : Int32)) <<< ((8 : Int32) &&& 31))).toUInt32.toUInt16.toUInt32.toInt32))]) (fun _ kt => st _ (XS.ishl X.here hx rfl (hb hby d23_56) rfl (XS.ior X.here hx rfl (hb hby d23_57) rfl (XS.i2c X.here hx rfl (hb hby d23_58) rfl kt)))) ?_
  show oWk _ _ _ _ T (mkF m 59 #[rv xb, iv 1] [(.int ((((((xc0 >>> ((0 : Int32) &&& 31)).toInt8.toInt32) &&& (255 : Int32)) <<< ((0 : Int32) &&& 31)) ||| ((((xc0 >>> ((8 : Int32) &&& 31)).toInt8.toInt32) &&& (255 : Int32)) <<< ((8 : Int32) &&& 31))).toUInt32.toUInt16.toUInt32.toInt32))])
  rw [oU16 hr]
  show oWk _ _ _ _ T (mkF m 59 #[rv xb, iv 1] [(.int xc0)])
  exact oRetN X hx hlk hret (Or.inr (Or.inl rfl)) (show narrow .char (.int xc0) = .int xc0 from congrArg Value.int (oChrU hr)) (hb hby d23_59) (by rw [e0]; exact ⟨rfl, rfl, K⟩) (by decide) (by decide)
def Q_rC3U_1 (Z : State) (xa : Addr) (xk : ClassId) (xc0 : Int32) (h0 : Heap) (v : Option Value) (h : Heap) (L : List Loc) : Prop := ∃ (nb : Addr) (nk : ClassId), v = some (.ref nb) ∧ oKp h0 h [] L ∧ (h0.size ≤ nb) ∧ (Arv Z h nb nk .byte (2 : Int32) [(iu0 xc0), (iu8 xc0)] (.int (0 : Int32)))
theorem d7_20 : decode jdk_52_method_16_code 20 = .ok (.aload_n 0, 1) := by decide +kernel
theorem d7_21 : decode jdk_52_method_16_code 21 = .ok (.iload_n 1, 1) := by decide +kernel
theorem d7_22 : decode jdk_52_method_16_code 22 = .ok (.iload_n 2, 1) := by decide +kernel
theorem d7_23 : decode jdk_52_method_16_code 23 = .ok (.invokestatic 119, 3) := by decide +kernel
theorem cs8 {a0 : Array Value} {Z : State} (hw : oHW a0 Z) : oCall Z Y1 (.invokestatic 119) yy11 jdk_52_method_14_code 5 (some (.array .byte)) (oRs 3) := oCall.stat (oW hw 87 rfl) (oW hw 88 rfl) (oW hw 40 rfl) (oW hw 89 rfl) (by decide) pd_3
theorem d7_26 : decode jdk_52_method_16_code 26 = .ok (.astore 5, 2) := by decide +kernel
theorem d7_28 : decode jdk_52_method_16_code 28 = .ok (.aload 5, 2) := by decide +kernel
theorem d7_30 : decode jdk_52_method_16_code 30 = .ok (.iload 4, 2) := by decide +kernel
theorem d7_32 : decode jdk_52_method_16_code 32 = .ok (.invokestatic 71, 3) := by decide +kernel
theorem pd_8 : parseMethodDescriptor "([BI)C" = some ⟨[(.array .byte), .int], some .char⟩ := by decide +kernel
theorem cs9 {a0 : Array Value} {Z : State} (hw : oHW a0 Z) : oCall Z Y1 (.invokestatic 71) yy12 jdk_52_method_5_code 2 (some .char) (oRs 2) := oCall.stat (oW hw 103 rfl) (oW hw 104 rfl) (oW hw 40 rfl) (oW hw 105 rfl) (by decide) pd_8
theorem d7_35 : decode jdk_52_method_16_code 35 = .ok (.sipush 255, 3) := by decide +kernel
theorem d7_38 : decode jdk_52_method_16_code 38 = .ok (.if_icmp .gt 16, 3) := by decide +kernel
theorem d7_54 : decode jdk_52_method_16_code 54 = .ok (.aload 5, 2) := by decide +kernel
theorem d7_56 : decode jdk_52_method_16_code 56 = .ok (.areturn, 1) := by decide +kernel
theorem rC3U_1 (l : Launch) (Z : State) (a0 : Array Value) (hw : oHW a0 Z) (ws : List Jvm.Cond) (xa : Addr) (xk : ClassId) (xc0 : Int32) (h0 : Heap) (O0 : Ext Z.heap h0) (S__assertionsDisabled : Sta Z Z.heap Y1 Y3 "Z" (.int (1 : Int32))) (S_HI_BYTE_SHIFT : Sta Z Z.heap Y1 "HI_BYTE_SHIFT" "I" (.int (0 : Int32))) (S_LO_BYTE_SHIFT : Sta Z Z.heap Y1 "LO_BYTE_SHIFT" "I" (.int (8 : Int32))) (V_xa : Arv Z h0 xa xk .char (1 : Int32) [(.int xc0)] (.int (0 : Int32))) (hr0 : 0 ≤ xc0.toInt ∧ xc0.toInt < 65536) (hU : ((255 : Int32) < xc0)) :
    oCon l Z yy6 jdk_52_method_16_code 6 (some (.array .byte)) ws ({ frames := 3, cells := 2, slots := 3, locals := 40 } : Room) #[(.ref xa), (.int (0 : Int32)), (.int (1 : Int32))] h0 (Q_rC3U_1 Z xa xk xc0 h0) := by
  refine oCon.of (plainFor_of_name pn_3) ?_
  intro p e s m below meth c T X hx hby hml hown hnm hret hlk hZ e0
  have hml : c.maxLocals = 6 := hml
  have K : oKp h0 h0 [] [] := oKp.nil _ _
  refine oWk.cast (g' := (mkF m 0 #[rv xa, iv 0, iv 1, uu, uu, uu] [])) (by first | rfl | (simp [entryFrame, mkF, argsToLocals, Value.category]; done)) ?_
  have hgt := hU
  · show oWk _ _ _ _ T (mkF m 0 #[rv xa, iv 0, iv 1, uu, uu, uu] [])
    refine oWk.st (fun _ kt => zI X hx hby d7_0 rfl rfl kt) ?_
    obtain ⟨o1, g1⟩ : ∃ z, z = h0.size := ⟨_, rfl⟩
    have ne_xa_o1 : xa ≠ o1 := Nat.ne_of_lt (Nat.lt_of_lt_of_le V_xa.lt (Nat.le_of_eq g1.symm))
    have ge_o1 : h0.size ≤ o1 := Nat.le_trans K.le (Nat.le_of_eq g1.symm)
    obtain ⟨T, h, k1, X, e0, E1, A1, st⟩ := newP X hx hZ (oW hw 17 rfl) e0 (g := (mkF m 1 #[rv xa, iv 0, iv 1, uu, uu, uu] [(.int 1)])) rfl (hb hby d7_1) rfl (by decide) (cap := 1) (by decide) (by decide) (by decide) (by decide)
    rw [← g1] at A1 st
    have K := K.ext E1
    have V_o1 : Arv Z h o1 k1 .byte (1 : Int32) [(.int (0 : Int32))] (.int (0 : Int32)) := (Arv.new A1 (by decide)).pad (pad_rep [] (.int (0 : Int32)) 1)
    refine oWk.to (mkF m 9 #[rv xa, iv 0, iv 1, rv o1, uu, uu] [(.int 1), (.int 0), (.ref o1), (.int 0), (.ref xa)]) (fun _ kt => st _ (zTn X hx hby d7_3 rfl rfl rfl (l' := #[rv xa, iv 0, iv 1, rv o1, uu, uu]) rfl (zA X hx hby d7_4 rfl rfl rfl (zI X hx hby d7_5 rfl rfl (zA X hx hby d7_6 rfl rfl rfl (zK X hx hby d7_7 rfl (zI X hx hby d7_8 rfl rfl kt))))))) ?_
    have V_xa := (V_xa.ext E1)
    have Oh := K.old O0 all0
    obtain ⟨_, T, h, Lc3, X, e0, hQ, st⟩ := (cs1 hw).run X hx hZ hown e0 (A := [(.ref xa), (.int (0 : Int32)), (.ref o1), (.int (0 : Int32)), (.int (1 : Int32))]) rfl (rC5U_1_0 l Z a0 hw [] xa o1 xk k1 xc0 h Oh (Nat.le_trans O0.1 ge_o1) ne_xa_o1 V_xa V_o1 hgt) (W := 0) (by decide) hml (Ls := #[rv xa, iv 0, iv 1, rv o1, uu, uu]) rfl (rest := []) rfl rfl hby d7_9
    obtain ⟨rfl, K2⟩ := hQ
    have K := K.call K2 (allS (Or.inr ge_o1) all0)
    refine oWk.to (mkF m 22 #[rv xa, iv 0, iv 1, rv o1, iv 0, uu] [(.int 0), (.ref xa)]) (fun _ kt => st _ (zS X hx hby d7_12 rfl rfl (l' := #[rv xa, iv 0, iv 1, rv o1, iv 0, uu]) rfl (zJ X hx hby d7_14 rfl rfl (zI X hx hby d7_16 rfl rfl (zN X hx hby d7_17 rfl rfl (feq (by decide)).1 (zA X hx hby d7_20 rfl rfl rfl (zI X hx hby d7_21 rfl rfl kt))))))) ?_
    refine oWk.st (fun _ kt => zI X hx hby d7_22 rfl rfl kt) ?_
    have V_xa := (V_xa.keep K2.1 (ninS ne_xa_o1 nin0))
    have lt_xa := V_xa.lt
    have Oh := K.old O0 all0
    obtain ⟨_, T, h, Lc5, X, e0, hQ, st⟩ := (cs8 hw).run X hx hZ hown e0 (A := [(.ref xa), (.int (0 : Int32)), (.int (1 : Int32))]) rfl (rTBU_1 l Z a0 hw [] xa xk xc0 h Oh S__assertionsDisabled S_HI_BYTE_SHIFT S_LO_BYTE_SHIFT V_xa) (W := 0) (by decide) hml (Ls := #[rv xa, iv 0, iv 1, rv o1, iv 0, uu]) rfl (rest := []) rfl rfl hby d7_23
    obtain ⟨nb4, nk4, rfl, K4, gn_nb4, V_nb4⟩ := hQ
    have ge_nb4 := Nat.le_trans K.le gn_nb4
    have ne_xa_nb4 : xa ≠ nb4 := Nat.ne_of_lt (Nat.lt_of_lt_of_le lt_xa gn_nb4)
    have K := K.call K4 all0
    refine oWk.st (fun _ kt => st _ (zT X hx hby d7_26 rfl rfl rfl (l' := #[rv xa, iv 0, iv 1, rv o1, iv 0, rv nb4]) rfl (zB X hx hby d7_28 rfl rfl rfl (zJ X hx hby d7_30 rfl rfl kt)))) ?_
    have Oh := K.old O0 all0
    obtain ⟨T, L7, X, e0, K, st⟩ := (cs9 hw).pure X hx hZ hown e0 K (A := [(.ref nb4), (.int (0 : Int32))]) rfl (rGC_1_0 l Z a0 hw [] nb4 nk4 xc0 h Oh S__assertionsDisabled S_HI_BYTE_SHIFT S_LO_BYTE_SHIFT hr0 V_nb4) (fun _ _ _ q => q) (W := 0) (by decide) hml (Ls := #[rv xa, iv 0, iv 1, rv o1, iv 0, rv nb4]) rfl (rest := []) rfl rfl hby d7_32
    refine oWk.to (mkF m 56 #[rv xa, iv 0, iv 1, rv o1, iv 0, rv nb4] [(.ref nb4)]) (fun _ kt => st _ (zM X hx hby d7_35 rfl (zY X hx hby d7_38 rfl rfl (tlt hgt).2.2.1 (pc' := 54) rfl (zB X hx hby d7_54 rfl rfl rfl kt)))) ?_
    exact oRetA X hx hlk hret rfl rfl (hb hby d7_56) (by rw [e0]; exact ⟨nb4, nk4, rfl, K, ge_nb4, V_nb4⟩) (by decide) (by decide)
def Q_rCoU_1 (Z : State) (xb : Addr) (xk : ClassId) (xc0 : Int32) (h0 : Heap) (v : Option Value) (h : Heap) (L : List Loc) : Prop := v = some (.int (1 : Int32)) ∧ h = h0 ∧ oKp h0 h [] L
theorem rCoU_1 (l : Launch) (Z : State) (a0 : Array Value) (hw : oHW a0 Z) (ws : List Jvm.Cond) (xb : Addr) (xk : ClassId) (xc0 : Int32) (h0 : Heap) (O0 : Ext Z.heap h0) (V_xb : Arv Z h0 xb xk .byte (2 : Int32) [(iu0 xc0), (iu8 xc0)] (.int (0 : Int32))) :
    oCon l Z yy7 jdk_52_method_15_code 2 (some .byte) ws ({ frames := 0, cells := 0, slots := 0, locals := 0 } : Room) #[(.ref xb), (.int (1 : Int32))] h0 (Q_rCoU_1 Z xb xk xc0 h0) := by
  refine oCon.of (plainFor_of_name pn_3) ?_
  intro p e s m below meth c T X hx hby hml hown hnm hret hlk hZ e0
  have hml : c.maxLocals = 2 := hml
  have K : oKp h0 h0 [] [] := oKp.nil _ _
  refine oWk.cast (g' := (mkF m 0 #[rv xb, iv 1] [])) (by first | rfl | (simp [entryFrame, mkF, argsToLocals, Value.category]; done)) ?_
  refine oWk.to (mkF m 8 #[rv xb, iv 1] [(.int 1)]) (fun _ kt => zI X hx hby d9_0 rfl rfl (zA X hx hby d9_1 rfl rfl rfl (oAl X hx hZ e0 V_xb hby d9_2 rfl rfl (XS.isub X.here hx rfl (hb hby d9_3) rfl (zL X hx hby d9_4 rfl (XS.iushr X.here hx rfl (hb hby d9_6) rfl (XS.i2b X.here hx rfl (hb hby d9_7) rfl kt))))))) ?_
  exact oRetN X hx hlk hret (Or.inl rfl) rfl (hb hby d9_8) (by rw [e0]; exact ⟨rfl, rfl, K⟩) (by decide) (by decide)
def Q_rI4U_1 (Z : State) (xs xa : Addr) (xk : ClassId) (xz : Int32) (xu xv : Value) (xc0 : Int32) (h0 : Heap) (v : Option Value) (h : Heap) (L : List Loc) : Prop := ∃ (nb : Addr) (nk : ClassId), v = none ∧ oKp h0 h [xs] L ∧ (Exa Z h xs Y0) ∧ (Fld Z h xs Y0 "coder" "B" (.int (1 : Int32))) ∧ (Fld Z h xs Y0 "value" "[B" (.ref nb)) ∧ (h0.size ≤ nb) ∧ (Arv Z h nb nk .byte (2 : Int32) [(iu0 xc0), (iu8 xc0)] (.int (0 : Int32)))
theorem rI4U_1 (l : Launch) (Z : State) (a0 : Array Value) (hw : oHW a0 Z) (ws : List Jvm.Cond) (xs xa : Addr) (xk : ClassId) (xz : Int32) (xu xv : Value) (xc0 : Int32) (h0 : Heap) (O0 : Ext Z.heap h0) (S_COMPACT_STRINGS : Sta Z Z.heap Y0 Y6 "Z" (.int xz)) (hz : ¬ xz = (0 : Int32)) (S__assertionsDisabled : Sta Z Z.heap Y1 Y3 "Z" (.int (1 : Int32))) (S_HI_BYTE_SHIFT : Sta Z Z.heap Y1 "HI_BYTE_SHIFT" "I" (.int (0 : Int32))) (S_LO_BYTE_SHIFT : Sta Z Z.heap Y1 "LO_BYTE_SHIFT" "I" (.int (8 : Int32))) (og_xs : Z.heap.size ≤ xs) (E_xs : Exa Z h0 xs Y0) (F_value_xs : Fld Z h0 xs Y0 "value" "[B" xu) (F_coder_xs : Fld Z h0 xs Y0 "coder" "B" xv) (V_xa : Arv Z h0 xa xk .char (1 : Int32) [(.int xc0)] (.int (0 : Int32))) (hr0 : 0 ≤ xc0.toInt ∧ xc0.toInt < 65536) (hU : ((255 : Int32) < xc0)) :
    oCon l Z yy3 jdk_42_method_149_code 6 none ws ({ frames := 4, cells := 2, slots := 3, locals := 57 } : Room) #[(.ref xs), (.ref xa), (.int (0 : Int32)), (.int (1 : Int32)), .null] h0 (Q_rI4U_1 Z xs xa xk xz xu xv xc0 h0) := by
  refine oCon.of (plainFor_of_name pn_2) ?_
  intro p e s m below meth c T X hx hby hml hown hnm hret hlk hZ e0
  have hml : c.maxLocals = 6 := hml
  have K : oKp h0 h0 [xs] [] := oKp.nil _ _
  refine oWk.cast (g' := (mkF m 0 #[rv xs, rv xa, iv 0, iv 1, .val .null, uu] [])) (by first | rfl | (simp [entryFrame, mkF, argsToLocals, Value.category]; done)) ?_
  refine oWk.st (fun _ kt => zA X hx hby d2_0 rfl rfl rfl kt) ?_
  obtain ⟨T, X, e0, st⟩ := initO X hx hZ hown (oW hw 13 rfl) (oW hw 14 rfl) (oW hw 15 rfl) e0 (g := (mkF m 1 #[rv xs, rv xa, iv 0, iv 1, .val .null, uu] [(.ref xs)])) rfl (by rw [hml]; rfl) rfl (hb hby d2_1) (by decide) (W := 0) (Nat.le_of_eq rfl) (by decide)
  refine oWk.st (fun _ kt => st _ (zI X hx hby d2_4 rfl rfl (zF X hx hby d2_5 rfl rfl ((if0 _ _).trans (feq (by decide)).2) (pc' := 27) rfl kt))) ?_
  have Oh := K.old O0 (allS og_xs all0)
  obtain ⟨T, X, e0, st⟩ := getS2 X hx hZ hown (host := "") (Or.inl (oW hw 37 rfl)) Via.refl e0 (S_COMPACT_STRINGS.ext Oh) (g := (mkF m 27 #[rv xs, rv xa, iv 0, iv 1, .val .null, uu] [])) rfl (hb hby d2_27)
  refine oWk.st (fun _ kt => st _ (zH X hx hby d2_30 rfl rfl ((if0 _ _).trans (feq hz).1) (zA X hx hby d2_33 rfl rfl rfl (zI X hx hby d2_34 rfl rfl (zI X hx hby d2_35 rfl rfl kt))))) ?_
  have lt_xs := E_xs.lt
  have lt_xa := V_xa.lt
  obtain ⟨_, T, h, Lc2, X, e0, hQ, st⟩ := (cs2 hw).run X hx hZ hown e0 (A := [(.ref xa), (.int (0 : Int32)), (.int (1 : Int32))]) rfl (rC3U_1 l Z a0 hw [] xa xk xc0 h0 Oh S__assertionsDisabled S_HI_BYTE_SHIFT S_LO_BYTE_SHIFT V_xa hr0 hU) (W := 0) (by decide) hml (Ls := #[rv xs, rv xa, iv 0, iv 1, .val .null, uu]) rfl (rest := []) rfl rfl hby d2_36
  obtain ⟨nb1, nk1, rfl, K1, gn_nb1, V_nb1⟩ := hQ
  have ge_nb1 := Nat.le_trans K.le gn_nb1
  have ne_xs_nb1 : xs ≠ nb1 := Nat.ne_of_lt (Nat.lt_of_lt_of_le lt_xs gn_nb1)
  have ne_xa_nb1 : xa ≠ nb1 := Nat.ne_of_lt (Nat.lt_of_lt_of_le lt_xa gn_nb1)
  have K := K.call K1 all0
  refine oWk.st (fun _ kt => st _ (zT X hx hby d2_39 rfl rfl rfl (l' := #[rv xs, rv xa, iv 0, iv 1, .val .null, rv nb1]) rfl (zA X hx hby d2_41 rfl rfl rfl (zB X hx hby d2_42 rfl rfl rfl (zI X hx hby d2_44 rfl rfl kt))))) ?_
  have Oh := K.old O0 (allS og_xs all0)
  obtain ⟨T, L4, X, e0, K, st⟩ := (cs3 hw).pure X hx hZ hown e0 K (A := [(.ref nb1), (.int (1 : Int32))]) rfl (rCoU_1 l Z a0 hw [] nb1 nk1 xc0 h Oh V_nb1) (fun _ _ _ q => q) (W := 1) (by decide) hml (Ls := #[rv xs, rv xa, iv 0, iv 1, .val .null, rv nb1]) rfl (rest := [(.ref xs)]) rfl rfl hby d2_45
  refine oWk.st (fun _ kt => st _ kt) ?_
  have E_xs := (E_xs.keep K1.1)
  have F_coder_xs := (F_coder_xs.keep K1.1 nin0)
  obtain ⟨T, h, X, e0, W5, st⟩ := putFN X hx hZ hown (oW hw 23 rfl) Via.refl e0 F_coder_xs E_xs (Or.inr ⟨(oW hw 19 rfl), rfl, hnm⟩) (oW hw 4 rfl) (ty := .byte) (v' := .int (1 : Int32)) (by decide) rfl (by decide) (g := (mkF m 48 #[rv xs, rv xa, iv 0, iv 1, .val .null, rv nb1] [(.int 1), (.ref xs)])) rfl rfl (hb hby d2_48)
  have K := K.wr W5 (Or.inl (List.mem_of_getElem? (i := 0) rfl))
  have F_coder_xs := F_coder_xs.same W5
  refine oWk.st (fun _ kt => st _ (zA X hx hby d2_51 rfl rfl rfl (zB X hx hby d2_52 rfl rfl rfl kt))) ?_
  have E_xs := (E_xs.wr W5)
  have F_value_xs := ((F_value_xs.keep K1.1 nin0).other W5 (Or.inr (slot_ne (Or.inr (oW hw 18 rfl)) (Or.inr (oW hw 19 rfl)) (by decide) (t := (.array .byte)) (t' := .byte) (by decide) (by decide))))
  obtain ⟨T, h, X, e0, W6, st⟩ := putF X hx hZ hown (host := "") (Or.inl (oW hw 22 rfl)) Via.refl e0 F_value_xs E_xs (Or.inr ⟨(oW hw 18 rfl), rfl, hnm⟩) (oW hw 4 rfl) (ty := (.array .byte)) (by decide) rfl rfl (g := (mkF m 54 #[rv xs, rv xa, iv 0, iv 1, .val .null, rv nb1] [(.ref nb1), (.ref xs)])) rfl rfl (hb hby d2_54)
  have K := K.wr W6 (Or.inl (List.mem_of_getElem? (i := 0) rfl))
  have F_value_xs := F_value_xs.same W6
  refine oWk.to (mkF m 57 #[rv xs, rv xa, iv 0, iv 1, .val .null, rv nb1] []) (fun _ kt => st _ kt) ?_
  have E_xs := (E_xs.wr W6)
  have F_coder_xs := (F_coder_xs.other W6 (Or.inr (slot_ne (Or.inr (oW hw 19 rfl)) (Or.inr (oW hw 18 rfl)) (by decide) (t := .byte) (t' := (.array .byte)) (by decide) (by decide))))
  have V_nb1 := ((V_nb1.other W5 (Ne.symm ne_xs_nb1)).other W6 (Ne.symm ne_xs_nb1))
  exact oRetV X hx hlk hret (hb hby d2_57) (by rw [e0]; exact ⟨nb1, nk1, rfl, K, E_xs, F_coder_xs, F_value_xs, ge_nb1, V_nb1⟩) (by decide) (by decide)
def Q_rI1U_1 (Z : State) (xs xa : Addr) (xk : ClassId) (xz : Int32) (xu xv : Value) (xc0 : Int32) (h0 : Heap) (v : Option Value) (h : Heap) (L : List Loc) : Prop := ∃ (nb : Addr) (nk : ClassId), v = none ∧ oKp h0 h [xs] L ∧ (Exa Z h xs Y0) ∧ (Fld Z h xs Y0 "coder" "B" (.int (1 : Int32))) ∧ (Fld Z h xs Y0 "value" "[B" (.ref nb)) ∧ (h0.size ≤ nb) ∧ (Arv Z h nb nk .byte (2 : Int32) [(iu0 xc0), (iu8 xc0)] (.int (0 : Int32)))
theorem rI1U_1 (l : Launch) (Z : State) (a0 : Array Value) (hw : oHW a0 Z) (ws : List Jvm.Cond) (xs xa : Addr) (xk : ClassId) (xz : Int32) (xu xv : Value) (xc0 : Int32) (h0 : Heap) (O0 : Ext Z.heap h0) (S_COMPACT_STRINGS : Sta Z Z.heap Y0 Y6 "Z" (.int xz)) (hz : ¬ xz = (0 : Int32)) (S__assertionsDisabled : Sta Z Z.heap Y1 Y3 "Z" (.int (1 : Int32))) (S_HI_BYTE_SHIFT : Sta Z Z.heap Y1 "HI_BYTE_SHIFT" "I" (.int (0 : Int32))) (S_LO_BYTE_SHIFT : Sta Z Z.heap Y1 "LO_BYTE_SHIFT" "I" (.int (8 : Int32))) (og_xs : Z.heap.size ≤ xs) (E_xs : Exa Z h0 xs Y0) (F_value_xs : Fld Z h0 xs Y0 "value" "[B" xu) (F_coder_xs : Fld Z h0 xs Y0 "coder" "B" xv) (V_xa : Arv Z h0 xa xk .char (1 : Int32) [(.int xc0)] (.int (0 : Int32))) (hr0 : 0 ≤ xc0.toInt ∧ xc0.toInt < 65536) (hU : ((255 : Int32) < xc0)) :
    oCon l Z yy4 jdk_42_method_3_code 2 none ws ({ frames := 5, cells := 2, slots := 3, locals := 74 } : Room) #[(.ref xs), (.ref xa)] h0 (Q_rI1U_1 Z xs xa xk xz xu xv xc0 h0) := by
  refine oCon.of (plainFor_of_name pn_2) ?_
  intro p e s m below meth c T X hx hby hml hown hnm hret hlk hZ e0
  have hml : c.maxLocals = 2 := hml
  have K : oKp h0 h0 [xs] [] := oKp.nil _ _
  refine oWk.cast (g' := (mkF m 0 #[rv xs, rv xa] [])) (by first | rfl | (simp [entryFrame, mkF, argsToLocals, Value.category]; done)) ?_
  refine oWk.st (fun _ kt => zA X hx hby d1_0 rfl rfl rfl (zA X hx hby d1_1 rfl rfl rfl (zK X hx hby d1_2 rfl (zA X hx hby d1_3 rfl rfl rfl (oAl X hx hZ e0 V_xa hby d1_4 rfl rfl (XS.aconstNull X.here hx rfl (hb hby d1_5) kt)))))) ?_
  have lt_xs := E_xs.lt
  have lt_xa := V_xa.lt
  have Oh := K.old O0 (allS og_xs all0)
  obtain ⟨_, T, h, Lc3, X, e0, hQ, st⟩ := (cs4 hw).run X hx hZ hown e0 (A := [(.ref xs), (.ref xa), (.int (0 : Int32)), (.int (1 : Int32)), .null]) ⟨rfl, _, _, rfl⟩ (rI4U_1 l Z a0 hw [] xs xa xk xz xu xv xc0 h0 Oh S_COMPACT_STRINGS hz S__assertionsDisabled S_HI_BYTE_SHIFT S_LO_BYTE_SHIFT og_xs E_xs F_value_xs F_coder_xs V_xa hr0 hU) (W := 0) (by decide) hml (Ls := #[rv xs, rv xa]) rfl (rest := []) rfl rfl hby d1_6
  obtain ⟨nb2, nk2, rfl, K2, E_xs, F_coder_xs, F_value_xs, gn_nb2, V_nb2⟩ := hQ
  have ge_nb2 := Nat.le_trans K.le gn_nb2
  have ne_xs_nb2 : xs ≠ nb2 := Nat.ne_of_lt (Nat.lt_of_lt_of_le lt_xs gn_nb2)
  have ne_xa_nb2 : xa ≠ nb2 := Nat.ne_of_lt (Nat.lt_of_lt_of_le lt_xa gn_nb2)
  have K := K.call K2 (allS (Or.inl (List.mem_of_getElem? (i := 0) rfl)) all0)
  refine oWk.to (mkF m 9 #[rv xs, rv xa] []) (fun _ kt => st _ kt) ?_
  exact oRetV X hx hlk hret (hb hby d1_9) (by rw [e0]; exact ⟨nb2, nk2, rfl, K, E_xs, F_coder_xs, F_value_xs, ge_nb2, V_nb2⟩) (by decide) (by decide)
def Q_rC5U_2_0 (Z : State) (xa xd : Addr) (xk xl : ClassId) (xc0 xc1 : Int32) (h0 : Heap) (v : Option Value) (h : Heap) (L : List Loc) : Prop := v = some (.int (0 : Int32)) ∧ oKp h0 h [xd] L
theorem rC5U_2_0 (l : Launch) (Z : State) (a0 : Array Value) (hw : oHW a0 Z) (ws : List Jvm.Cond) (xa xd : Addr) (xk xl : ClassId) (xc0 xc1 : Int32) (h0 : Heap) (O0 : Ext Z.heap h0) (og_xd : Z.heap.size ≤ xd) (ne_xa_xd : xa ≠ xd) (V_xa : Arv Z h0 xa xk .char (2 : Int32) [(.int xc0), (.int xc1)] (.int (0 : Int32))) (V_xd : Arv Z h0 xd xl .byte (2 : Int32) [(.int (0 : Int32)), (.int (0 : Int32))] (.int (0 : Int32))) (hgt : (255 : Int32) < xc0) :
    oCon l Z yy5 jdk_52_method_21_code 7 (some .int) ws ({ frames := 0, cells := 0, slots := 0, locals := 0 } : Room) #[(.ref xa), (.int (0 : Int32)), (.ref xd), (.int (0 : Int32)), (.int (2 : Int32))] h0 (Q_rC5U_2_0 Z xa xd xk xl xc0 xc1 h0) := by
  refine oCon.of (plainFor_of_name pn_3) ?_
  intro p e s m below meth c T X hx hby hml hown hnm hret hlk hZ e0
  have hml : c.maxLocals = 7 := hml
  have K : oKp h0 h0 [xd] [] := oKp.nil _ _
  refine oWk.cast (g' := (mkF m 0 #[rv xa, iv 0, rv xd, iv 0, iv 2, uu, uu] [])) (by first | rfl | (simp [entryFrame, mkF, argsToLocals, Value.category]; done)) ?_
  refine oWk.to (mkF m 12 #[rv xa, iv 0, rv xd, iv 0, iv 2, iv 0, uu] [(.int 0), (.ref xa)]) (fun _ kt => zK X hx hby d8_0 rfl (zS X hx hby d8_1 rfl rfl (l' := #[rv xa, iv 0, rv xd, iv 0, iv 2, iv 0, uu]) rfl (zJ X hx hby d8_3 rfl rfl (zJ X hx hby d8_5 rfl rfl (zN X hx hby d8_7 rfl rfl (tlt (by decide)).2.1 (zA X hx hby d8_10 rfl rfl rfl (zI X hx hby d8_11 rfl rfl kt))))))) ?_
  refine oWk.to (mkF m 20 #[rv xa, iv 0, rv xd, iv 0, iv 2, iv 0, iv xc0] [(.int 255), (.int xc0)]) (fun _ kt => oLdC X hx hZ e0 V_xa (0 : Int32) (.int xc0) ⟨by decide, by decide⟩ rfl hby d8_12 rfl rfl (zS X hx hby d8_13 rfl rfl (l' := #[rv xa, iv 0, rv xd, iv 0, iv 2, iv 0, iv xc0]) rfl (zJ X hx hby d8_15 rfl rfl (zM X hx hby d8_17 rfl kt)))) ?_
  refine oWk.to (mkF m 25 #[rv xa, iv 0, rv xd, iv 0, iv 2, iv 0, iv xc0] [(.int 0)]) (fun _ kt => zN X hx hby d8_20 rfl rfl (tlt hgt).2.2.2 (zJ X hx hby d8_23 rfl rfl kt)) ?_
  exact oRetI X hx hlk hret (hb hby d8_25) (by rw [e0]; exact ⟨rfl, K⟩) (by decide) (by decide)
def Q_rC5U_2_1 (Z : State) (xa xd : Addr) (xk xl : ClassId) (xc0 xc1 : Int32) (h0 : Heap) (v : Option Value) (h : Heap) (L : List Loc) : Prop := v = some (.int (1 : Int32)) ∧ oKp h0 h [xd] L
theorem rC5U_2_1 (l : Launch) (Z : State) (a0 : Array Value) (hw : oHW a0 Z) (ws : List Jvm.Cond) (xa xd : Addr) (xk xl : ClassId) (xc0 xc1 : Int32) (h0 : Heap) (O0 : Ext Z.heap h0) (og_xd : Z.heap.size ≤ xd) (ne_xa_xd : xa ≠ xd) (V_xa : Arv Z h0 xa xk .char (2 : Int32) [(.int xc0), (.int xc1)] (.int (0 : Int32))) (V_xd : Arv Z h0 xd xl .byte (2 : Int32) [(.int (0 : Int32)), (.int (0 : Int32))] (.int (0 : Int32))) (hle0 : ¬ (255 : Int32) < xc0) (hgt : (255 : Int32) < xc1) :
    oCon l Z yy5 jdk_52_method_21_code 7 (some .int) ws ({ frames := 0, cells := 0, slots := 0, locals := 0 } : Room) #[(.ref xa), (.int (0 : Int32)), (.ref xd), (.int (0 : Int32)), (.int (2 : Int32))] h0 (Q_rC5U_2_1 Z xa xd xk xl xc0 xc1 h0) := by
  refine oCon.of (plainFor_of_name pn_3) ?_
  intro p e s m below meth c T X hx hby hml hown hnm hret hlk hZ e0
  have hml : c.maxLocals = 7 := hml
  have K : oKp h0 h0 [xd] [] := oKp.nil _ _
  refine oWk.cast (g' := (mkF m 0 #[rv xa, iv 0, rv xd, iv 0, iv 2, uu, uu] [])) (by first | rfl | (simp [entryFrame, mkF, argsToLocals, Value.category]; done)) ?_
  refine oWk.to (mkF m 12 #[rv xa, iv 0, rv xd, iv 0, iv 2, iv 0, uu] [(.int 0), (.ref xa)]) (fun _ kt => zK X hx hby d8_0 rfl (zS X hx hby d8_1 rfl rfl (l' := #[rv xa, iv 0, rv xd, iv 0, iv 2, iv 0, uu]) rfl (zJ X hx hby d8_3 rfl rfl (zJ X hx hby d8_5 rfl rfl (zN X hx hby d8_7 rfl rfl (tlt (by decide)).2.1 (zA X hx hby d8_10 rfl rfl rfl (zI X hx hby d8_11 rfl rfl kt))))))) ?_
  refine oWk.to (mkF m 20 #[rv xa, iv 0, rv xd, iv 0, iv 2, iv 0, iv xc0] [(.int 255), (.int xc0)]) (fun _ kt => oLdC X hx hZ e0 V_xa (0 : Int32) (.int xc0) ⟨by decide, by decide⟩ rfl hby d8_12 rfl rfl (zS X hx hby d8_13 rfl rfl (l' := #[rv xa, iv 0, rv xd, iv 0, iv 2, iv 0, iv xc0]) rfl (zJ X hx hby d8_15 rfl rfl (zM X hx hby d8_17 rfl kt)))) ?_
  refine oWk.to (mkF m 31 #[rv xa, iv 0, rv xd, iv 0, iv 2, iv 0, iv xc0] [(ib xc0), (.int 0), (.ref xd)]) (fun _ kt => zY X hx hby d8_20 rfl rfl (flt hle0).2.2.2 (pc' := 26) rfl (zA X hx hby d8_26 rfl rfl rfl (zI X hx hby d8_27 rfl rfl (zJ X hx hby d8_28 rfl rfl (XS.i2b X.here hx rfl (hb hby d8_30) rfl kt))))) ?_
  obtain ⟨cl2, Ar2, q2, Sz2, Nn2, Hs2, Ft2⟩ := id V_xd
  have hin2 : ¬ ((0 : Int32) < 0 ∨ cl2.slots.size ≤ ((0 : Int32)).toNatClampNeg) := inb_of Sz2 ⟨by decide, by decide⟩
  obtain ⟨T, h, X, e0, W2, st⟩ := stB X hx hZ e0 Ar2 (j := (0 : Int32)) hin2 (g := (mkF m 31 #[rv xa, iv 0, rv xd, iv 0, iv 2, iv 0, iv xc0] [(ib xc0), (.int 0), (.ref xd)])) rfl rfl (hb hby d8_31)
  have K := K.wr W2 (Or.inl (List.mem_of_getElem? (i := 0) rfl))
  have V_xd := Arv.set Ar2 q2 Sz2 Nn2 Hs2 Ft2 (fits_nar_byte _) W2 0 rfl (Nat.le_of_ble_eq_true rfl)
  rw [oB8 xc0] at V_xd
  replace V_xd : Arv Z h xd xl .byte (2 : Int32) [(ib xc0), (.int (0 : Int32))] (.int (0 : Int32)) := V_xd
  refine oWk.to (mkF m 7 #[rv xa, iv 1, rv xd, iv 1, iv 2, iv 1, iv xc0] [(.int 2), (.int 1)]) (fun _ kt => st _ (zC X hx hby d8_32 rfl rfl (l' := #[rv xa, iv ((0 : Int32) + (1 : Int32)), rv xd, iv 0, iv 2, iv 0, iv xc0]) rfl (zC X hx hby d8_35 rfl rfl (l' := #[rv xa, iv 1, rv xd, iv ((0 : Int32) + (1 : Int32)), iv 2, iv 0, iv xc0]) rfl (zC X hx hby d8_38 rfl rfl (l' := #[rv xa, iv 1, rv xd, iv 1, iv 2, iv ((0 : Int32) + (1 : Int32)), iv xc0]) rfl (zG X hx hby d8_41 rfl (pc' := 3) rfl (zJ X hx hby d8_3 rfl rfl (zJ X hx hby d8_5 rfl rfl kt))))))) ?_
  refine oWk.st (fun _ kt => zN X hx hby d8_7 rfl rfl (tlt (by decide)).2.1 (zA X hx hby d8_10 rfl rfl rfl (zI X hx hby d8_11 rfl rfl kt))) ?_
  have V_xa := (V_xa.other W2 ne_xa_xd)
  refine oWk.to (mkF m 20 #[rv xa, iv 1, rv xd, iv 1, iv 2, iv 1, iv xc1] [(.int 255), (.int xc1)]) (fun _ kt => oLdC X hx hZ e0 V_xa (1 : Int32) (.int xc1) ⟨by decide, by decide⟩ rfl hby d8_12 rfl rfl (zS X hx hby d8_13 rfl rfl (l' := #[rv xa, iv 1, rv xd, iv 1, iv 2, iv 1, iv xc1]) rfl (zJ X hx hby d8_15 rfl rfl (zM X hx hby d8_17 rfl kt)))) ?_
  refine oWk.to (mkF m 25 #[rv xa, iv 1, rv xd, iv 1, iv 2, iv 1, iv xc1] [(.int 1)]) (fun _ kt => zN X hx hby d8_20 rfl rfl (tlt hgt).2.2.2 (zJ X hx hby d8_23 rfl rfl kt)) ?_
  exact oRetI X hx hlk hret (hb hby d8_25) (by rw [e0]; exact ⟨rfl, K⟩) (by decide) (by decide)
def Q_rNBL_2 (Z : State)  (h0 : Heap) (v : Option Value) (h : Heap) (L : List Loc) : Prop := v = some (.int (4 : Int32)) ∧ h = h0 ∧ oKp h0 h [] L
theorem rNBL_2 (l : Launch) (Z : State) (a0 : Array Value) (hw : oHW a0 Z) (ws : List Jvm.Cond)  (h0 : Heap) (O0 : Ext Z.heap h0)  :
    oCon l Z yy8 jdk_52_method_3_code 1 (some .int) ws ({ frames := 0, cells := 0, slots := 0, locals := 0 } : Room) #[(.int (2 : Int32))] h0 (Q_rNBL_2 Z  h0) := by
  refine oCon.of (plainFor_of_name pn_3) ?_
  intro p e s m below meth c T X hx hby hml hown hnm hret hlk hZ e0
  have hml : c.maxLocals = 1 := hml
  have K : oKp h0 h0 [] [] := oKp.nil _ _
  refine oWk.cast (g' := (mkF m 0 #[iv 2] [])) (by first | rfl | (simp [entryFrame, mkF, argsToLocals, Value.category]; done)) ?_
  refine oWk.st (fun _ kt => zI X hx hby d21_0 rfl rfl (zF X hx hby d21_1 rfl rfl ((if0 _ _).trans (flt (by decide)).2.1) (pc' := 12) rfl (zI X hx hby d21_12 rfl rfl kt))) ?_
  refine oWk.to (mkF m 58 #[iv 2] [(.int 4)]) (fun _ kt => X.ldcI hx hown (mvT hZ (oW hw 96 rfl)) rfl (hb hby d21_13) (zY X hx hby d21_15 rfl rfl (tlt (by decide)).1 (pc' := 55) rfl (zI X hx hby d21_55 rfl rfl (zK X hx hby d21_56 rfl (XS.ishl X.here hx rfl (hb hby d21_57) rfl kt))))) ?_
  exact oRetI X hx hlk hret (hb hby d21_58) (by rw [e0]; exact ⟨rfl, rfl, K⟩) (by decide) (by decide)
def Q_rNBF_2 (Z : State)  (h0 : Heap) (v : Option Value) (h : Heap) (L : List Loc) : Prop := ∃ (nb : Addr) (nk : ClassId), v = some (.ref nb) ∧ oKp h0 h [] L ∧ (h0.size ≤ nb) ∧ (Arv Z h nb nk .byte (4 : Int32) [(.int (0 : Int32)), (.int (0 : Int32)), (.int (0 : Int32)), (.int (0 : Int32))] (.int (0 : Int32)))
theorem rNBF_2 (l : Launch) (Z : State) (a0 : Array Value) (hw : oHW a0 Z) (ws : List Jvm.Cond)  (h0 : Heap) (O0 : Ext Z.heap h0)  :
    oCon l Z yy9 jdk_52_method_2_code 1 (some (.array .byte)) ws ({ frames := 1, cells := 1, slots := 4, locals := 12 } : Room) #[(.int (2 : Int32))] h0 (Q_rNBF_2 Z  h0) := by
  refine oCon.of (plainFor_of_name pn_3) ?_
  intro p e s m below meth c T X hx hby hml hown hnm hret hlk hZ e0
  have hml : c.maxLocals = 1 := hml
  have K : oKp h0 h0 [] [] := oKp.nil _ _
  refine oWk.cast (g' := (mkF m 0 #[iv 2] [])) (by first | rfl | (simp [entryFrame, mkF, argsToLocals, Value.category]; done)) ?_
  refine oWk.st (fun _ kt => zI X hx hby d20_0 rfl rfl kt) ?_
  have Oh := K.old O0 all0
  obtain ⟨T, L2, X, e0, K, st⟩ := (cs5 hw).pure X hx hZ hown e0 K (A := [(.int (2 : Int32))]) rfl (rNBL_2 l Z a0 hw []  h0 Oh ) (fun _ _ _ q => q) (W := 0) (by decide) hml (Ls := #[iv 2]) rfl (rest := []) rfl rfl hby d20_1
  refine oWk.st (fun _ kt => st _ kt) ?_
  obtain ⟨o3, g3⟩ : ∃ z, z = h0.size := ⟨_, rfl⟩
  have ge_o3 : h0.size ≤ o3 := Nat.le_trans K.le (Nat.le_of_eq g3.symm)
  obtain ⟨T, h, k3, X, e0, E3, A3, st⟩ := newP X hx hZ (oW hw 17 rfl) e0 (g := (mkF m 4 #[iv 2] [(.int 4)])) rfl (hb hby d20_4) rfl (by decide) (cap := 4) (by decide) (by decide) (by decide) (by decide)
  rw [← g3] at A3 st
  have K := K.ext E3
  have V_o3 : Arv Z h o3 k3 .byte (4 : Int32) [(.int (0 : Int32)), (.int (0 : Int32)), (.int (0 : Int32)), (.int (0 : Int32))] (.int (0 : Int32)) := (Arv.new A3 (by decide)).pad (pad_rep [] (.int (0 : Int32)) 4)
  refine oWk.to (mkF m 6 #[iv 2] [(.ref o3)]) (fun _ kt => st _ kt) ?_
  exact oRetA X hx hlk hret rfl rfl (hb hby d20_6) (by rw [e0]; exact ⟨o3, k3, rfl, K, ge_o3, V_o3⟩) (by decide) (by decide)
def Q_rPut_2_0 (Z : State) (xb : Addr) (xk : ClassId) (xp xy0 xy1 xy2 xy3 : Int32) (h0 : Heap) (v : Option Value) (h : Heap) (L : List Loc) : Prop := v = none ∧ oKp h0 h [xb] L ∧ (Arv Z h xb xk .byte (4 : Int32) [(iu0 xp), (iu8 xp), (.int xy2), (.int xy3)] (.int (0 : Int32)))
theorem rPut_2_0 (l : Launch) (Z : State) (a0 : Array Value) (hw : oHW a0 Z) (ws : List Jvm.Cond) (xb : Addr) (xk : ClassId) (xp xy0 xy1 xy2 xy3 : Int32) (h0 : Heap) (O0 : Ext Z.heap h0) (S__assertionsDisabled : Sta Z Z.heap Y1 Y3 "Z" (.int (1 : Int32))) (S_HI_BYTE_SHIFT : Sta Z Z.heap Y1 "HI_BYTE_SHIFT" "I" (.int (0 : Int32))) (S_LO_BYTE_SHIFT : Sta Z Z.heap Y1 "LO_BYTE_SHIFT" "I" (.int (8 : Int32))) (og_xb : Z.heap.size ≤ xb) (V_xb : Arv Z h0 xb xk .byte (4 : Int32) [(.int xy0), (.int xy1), (.int xy2), (.int xy3)] (.int (0 : Int32))) :
    oCon l Z yy10 jdk_52_method_4_code 3 none ws ({ frames := 0, cells := 0, slots := 0, locals := 0 } : Room) #[(.ref xb), (.int (0 : Int32)), (.int xp)] h0 (Q_rPut_2_0 Z xb xk xp xy0 xy1 xy2 xy3 h0) := by
  refine oCon.of (plainFor_of_name pn_3) ?_
  intro p e s m below meth c T X hx hby hml hown hnm hret hlk hZ e0
  have hml : c.maxLocals = 3 := hml
  have K : oKp h0 h0 [xb] [] := oKp.nil _ _
  refine oWk.cast (g' := (mkF m 0 #[rv xb, iv 0, iv xp] [])) (by first | rfl | (simp [entryFrame, mkF, argsToLocals, Value.category]; done)) ?_
  have Oh := K.old O0 (allS og_xb all0)
  obtain ⟨T, X, e0, st⟩ := getS2 X hx hZ hown (host := "") (Or.inl (oW hw 100 rfl)) Via.refl e0 (S__assertionsDisabled.ext Oh) (g := (mkF m 0 #[rv xb, iv 0, iv xp] [])) rfl (hb hby d22_0)
  refine oWk.to (mkF m 33 #[rv xb, iv 0, iv xp] [(.ref xb)]) (fun _ kt => st _ (zF X hx hby d22_3 rfl rfl ((if0 _ _).trans (feq (by decide)).2) (pc' := 28) rfl (zI X hx hby d22_28 rfl rfl (zK X hx hby d22_29 rfl (XS.ishl X.here hx rfl (hb hby d22_30) rfl (zSn X hx hby d22_31 rfl rfl (l' := #[rv xb, iv 0, iv xp]) rfl (zA X hx hby d22_32 rfl rfl rfl kt))))))) ?_
  refine oWk.st (fun _ kt => zI X hx hby d22_33 rfl rfl (zC X hx hby d22_34 rfl rfl (l' := #[rv xb, iv ((0 : Int32) + (1 : Int32)), iv xp]) rfl (zI X hx hby d22_37 rfl rfl kt))) ?_
  obtain ⟨T, X, e0, st⟩ := getS2 X hx hZ hown (host := "") (Or.inl (oW hw 101 rfl)) Via.refl e0 (S_HI_BYTE_SHIFT.ext Oh) (g := (mkF m 38 #[rv xb, iv 1, iv xp] [(.int xp), (.int 0), (.ref xb)])) rfl (hb hby d22_38)
  refine oWk.st (fun _ kt => st _ (XS.ishr X.here hx rfl (hb hby d22_41) rfl (XS.i2b X.here hx rfl (hb hby d22_42) rfl kt))) ?_
  obtain ⟨cl1, Ar1, q1, Sz1, Nn1, Hs1, Ft1⟩ := id V_xb
  have hin1 : ¬ ((0 : Int32) < 0 ∨ cl1.slots.size ≤ ((0 : Int32)).toNatClampNeg) := inb_of Sz1 ⟨by decide, by decide⟩
  obtain ⟨T, h, X, e0, W1, st⟩ := stB X hx hZ e0 Ar1 (j := (0 : Int32)) hin1 (g := (mkF m 43 #[rv xb, iv 1, iv xp] [(iu0 xp), (.int 0), (.ref xb)])) rfl rfl (hb hby d22_43)
  have K := K.wr W1 (Or.inl (List.mem_of_getElem? (i := 0) rfl))
  have V_xb := Arv.set Ar1 q1 Sz1 Nn1 Hs1 Ft1 (fits_nar_byte _) W1 0 rfl (Nat.le_of_ble_eq_true rfl)
  rw [oB8 (xp >>> ((0 : Int32) &&& 31))] at V_xb
  replace V_xb : Arv Z h xb xk .byte (4 : Int32) [(iu0 xp), (.int xy1), (.int xy2), (.int xy3)] (.int (0 : Int32)) := V_xb
  refine oWk.st (fun _ kt => st _ (zA X hx hby d22_44 rfl rfl rfl (zI X hx hby d22_45 rfl rfl (zI X hx hby d22_46 rfl rfl kt)))) ?_
  have Oh := K.old O0 (allS og_xb all0)
  obtain ⟨T, X, e0, st⟩ := getS2 X hx hZ hown (host := "") (Or.inl (oW hw 102 rfl)) Via.refl e0 (S_LO_BYTE_SHIFT.ext Oh) (g := (mkF m 47 #[rv xb, iv 1, iv xp] [(.int xp), (.int 1), (.ref xb)])) rfl (hb hby d22_47)
  refine oWk.st (fun _ kt => st _ (XS.ishr X.here hx rfl (hb hby d22_50) rfl (XS.i2b X.here hx rfl (hb hby d22_51) rfl kt))) ?_
  obtain ⟨cl2, Ar2, q2, Sz2, Nn2, Hs2, Ft2⟩ := id V_xb
  have hin2 : ¬ ((1 : Int32) < 0 ∨ cl2.slots.size ≤ ((1 : Int32)).toNatClampNeg) := inb_of Sz2 ⟨by decide, by decide⟩
  obtain ⟨T, h, X, e0, W2, st⟩ := stB X hx hZ e0 Ar2 (j := (1 : Int32)) hin2 (g := (mkF m 52 #[rv xb, iv 1, iv xp] [(iu8 xp), (.int 1), (.ref xb)])) rfl rfl (hb hby d22_52)
  have K := K.wr W2 (Or.inl (List.mem_of_getElem? (i := 0) rfl))
  have V_xb := Arv.set Ar2 q2 Sz2 Nn2 Hs2 Ft2 (fits_nar_byte _) W2 1 rfl (Nat.le_of_ble_eq_true rfl)
  rw [oB8 (xp >>> ((8 : Int32) &&& 31))] at V_xb
  replace V_xb : Arv Z h xb xk .byte (4 : Int32) [(iu0 xp), (iu8 xp), (.int xy2), (.int xy3)] (.int (0 : Int32)) := V_xb
  refine oWk.to (mkF m 53 #[rv xb, iv 1, iv xp] []) (fun _ kt => st _ kt) ?_
  exact oRetV X hx hlk hret (hb hby d22_53) (by rw [e0]; exact ⟨rfl, K, V_xb⟩) (by decide) (by decide)
def Q_rPut_2_1 (Z : State) (xb : Addr) (xk : ClassId) (xp xy0 xy1 xy2 xy3 : Int32) (h0 : Heap) (v : Option Value) (h : Heap) (L : List Loc) : Prop := v = none ∧ oKp h0 h [xb] L ∧ (Arv Z h xb xk .byte (4 : Int32) [(.int xy0), (.int xy1), (iu0 xp), (iu8 xp)] (.int (0 : Int32)))
theorem rPut_2_1 (l : Launch) (Z : State) (a0 : Array Value) (hw : oHW a0 Z) (ws : List Jvm.Cond) (xb : Addr) (xk : ClassId) (xp xy0 xy1 xy2 xy3 : Int32) (h0 : Heap) (O0 : Ext Z.heap h0) (S__assertionsDisabled : Sta Z Z.heap Y1 Y3 "Z" (.int (1 : Int32))) (S_HI_BYTE_SHIFT : Sta Z Z.heap Y1 "HI_BYTE_SHIFT" "I" (.int (0 : Int32))) (S_LO_BYTE_SHIFT : Sta Z Z.heap Y1 "LO_BYTE_SHIFT" "I" (.int (8 : Int32))) (og_xb : Z.heap.size ≤ xb) (V_xb : Arv Z h0 xb xk .byte (4 : Int32) [(.int xy0), (.int xy1), (.int xy2), (.int xy3)] (.int (0 : Int32))) :
    oCon l Z yy10 jdk_52_method_4_code 3 none ws ({ frames := 0, cells := 0, slots := 0, locals := 0 } : Room) #[(.ref xb), (.int (1 : Int32)), (.int xp)] h0 (Q_rPut_2_1 Z xb xk xp xy0 xy1 xy2 xy3 h0) := by
  refine oCon.of (plainFor_of_name pn_3) ?_
  intro p e s m below meth c T X hx hby hml hown hnm hret hlk hZ e0
  have hml : c.maxLocals = 3 := hml
  have K : oKp h0 h0 [xb] [] := oKp.nil _ _
  refine oWk.cast (g' := (mkF m 0 #[rv xb, iv 1, iv xp] [])) (by first | rfl | (simp [entryFrame, mkF, argsToLocals, Value.category]; done)) ?_
  have Oh := K.old O0 (allS og_xb all0)
  obtain ⟨T, X, e0, st⟩ := getS2 X hx hZ hown (host := "") (Or.inl (oW hw 100 rfl)) Via.refl e0 (S__assertionsDisabled.ext Oh) (g := (mkF m 0 #[rv xb, iv 1, iv xp] [])) rfl (hb hby d22_0)
  refine oWk.to (mkF m 33 #[rv xb, iv 2, iv xp] [(.ref xb)]) (fun _ kt => st _ (zF X hx hby d22_3 rfl rfl ((if0 _ _).trans (feq (by decide)).2) (pc' := 28) rfl (zI X hx hby d22_28 rfl rfl (zK X hx hby d22_29 rfl (XS.ishl X.here hx rfl (hb hby d22_30) rfl (zSn X hx hby d22_31 rfl rfl (l' := #[rv xb, iv 2, iv xp]) rfl (zA X hx hby d22_32 rfl rfl rfl kt))))))) ?_
  refine oWk.st (fun _ kt => zI X hx hby d22_33 rfl rfl (zC X hx hby d22_34 rfl rfl (l' := #[rv xb, iv ((2 : Int32) + (1 : Int32)), iv xp]) rfl (zI X hx hby d22_37 rfl rfl kt))) ?_
  obtain ⟨T, X, e0, st⟩ := getS2 X hx hZ hown (host := "") (Or.inl (oW hw 101 rfl)) Via.refl e0 (S_HI_BYTE_SHIFT.ext Oh) (g := (mkF m 38 #[rv xb, iv 3, iv xp] [(.int xp), (.int 2), (.ref xb)])) rfl (hb hby d22_38)
  refine oWk.st (fun _ kt => st _ (XS.ishr X.here hx rfl (hb hby d22_41) rfl (XS.i2b X.here hx rfl (hb hby d22_42) rfl kt))) ?_
  obtain ⟨cl1, Ar1, q1, Sz1, Nn1, Hs1, Ft1⟩ := id V_xb
  have hin1 : ¬ ((2 : Int32) < 0 ∨ cl1.slots.size ≤ ((2 : Int32)).toNatClampNeg) := inb_of Sz1 ⟨by decide, by decide⟩
  obtain ⟨T, h, X, e0, W1, st⟩ := stB X hx hZ e0 Ar1 (j := (2 : Int32)) hin1 (g := (mkF m 43 #[rv xb, iv 3, iv xp] [(iu0 xp), (.int 2), (.ref xb)])) rfl rfl (hb hby d22_43)
  have K := K.wr W1 (Or.inl (List.mem_of_getElem? (i := 0) rfl))
  have V_xb := Arv.set Ar1 q1 Sz1 Nn1 Hs1 Ft1 (fits_nar_byte _) W1 2 rfl (Nat.le_of_ble_eq_true rfl)
  rw [oB8 (xp >>> ((0 : Int32) &&& 31))] at V_xb
  replace V_xb : Arv Z h xb xk .byte (4 : Int32) [(.int xy0), (.int xy1), (iu0 xp), (.int xy3)] (.int (0 : Int32)) := V_xb
  refine oWk.st (fun _ kt => st _ (zA X hx hby d22_44 rfl rfl rfl (zI X hx hby d22_45 rfl rfl (zI X hx hby d22_46 rfl rfl kt)))) ?_
  have Oh := K.old O0 (allS og_xb all0)
  obtain ⟨T, X, e0, st⟩ := getS2 X hx hZ hown (host := "") (Or.inl (oW hw 102 rfl)) Via.refl e0 (S_LO_BYTE_SHIFT.ext Oh) (g := (mkF m 47 #[rv xb, iv 3, iv xp] [(.int xp), (.int 3), (.ref xb)])) rfl (hb hby d22_47)
  refine oWk.st (fun _ kt => st _ (XS.ishr X.here hx rfl (hb hby d22_50) rfl (XS.i2b X.here hx rfl (hb hby d22_51) rfl kt))) ?_
  obtain ⟨cl2, Ar2, q2, Sz2, Nn2, Hs2, Ft2⟩ := id V_xb
  have hin2 : ¬ ((3 : Int32) < 0 ∨ cl2.slots.size ≤ ((3 : Int32)).toNatClampNeg) := inb_of Sz2 ⟨by decide, by decide⟩
  obtain ⟨T, h, X, e0, W2, st⟩ := stB X hx hZ e0 Ar2 (j := (3 : Int32)) hin2 (g := (mkF m 52 #[rv xb, iv 3, iv xp] [(iu8 xp), (.int 3), (.ref xb)])) rfl rfl (hb hby d22_52)
  have K := K.wr W2 (Or.inl (List.mem_of_getElem? (i := 0) rfl))
  have V_xb := Arv.set Ar2 q2 Sz2 Nn2 Hs2 Ft2 (fits_nar_byte _) W2 3 rfl (Nat.le_of_ble_eq_true rfl)
  rw [oB8 (xp >>> ((8 : Int32) &&& 31))] at V_xb
  replace V_xb : Arv Z h xb xk .byte (4 : Int32) [(.int xy0), (.int xy1), (iu0 xp), (iu8 xp)] (.int (0 : Int32)) := V_xb
  refine oWk.to (mkF m 53 #[rv xb, iv 3, iv xp] []) (fun _ kt => st _ kt) ?_
  exact oRetV X hx hlk hret (hb hby d22_53) (by rw [e0]; exact ⟨rfl, K, V_xb⟩) (by decide) (by decide)
def Q_rTBU_2 (Z : State) (xa : Addr) (xk : ClassId) (xc0 xc1 : Int32) (h0 : Heap) (v : Option Value) (h : Heap) (L : List Loc) : Prop := ∃ (nb : Addr) (nk : ClassId), v = some (.ref nb) ∧ oKp h0 h [] L ∧ (h0.size ≤ nb) ∧ (Arv Z h nb nk .byte (4 : Int32) [(iu0 xc0), (iu8 xc0), (iu0 xc1), (iu8 xc1)] (.int (0 : Int32)))
theorem rTBU_2 (l : Launch) (Z : State) (a0 : Array Value) (hw : oHW a0 Z) (ws : List Jvm.Cond) (xa : Addr) (xk : ClassId) (xc0 xc1 : Int32) (h0 : Heap) (O0 : Ext Z.heap h0) (S__assertionsDisabled : Sta Z Z.heap Y1 Y3 "Z" (.int (1 : Int32))) (S_HI_BYTE_SHIFT : Sta Z Z.heap Y1 "HI_BYTE_SHIFT" "I" (.int (0 : Int32))) (S_LO_BYTE_SHIFT : Sta Z Z.heap Y1 "LO_BYTE_SHIFT" "I" (.int (8 : Int32))) (V_xa : Arv Z h0 xa xk .char (2 : Int32) [(.int xc0), (.int xc1)] (.int (0 : Int32))) :
    oCon l Z yy11 jdk_52_method_14_code 5 (some (.array .byte)) ws ({ frames := 2, cells := 1, slots := 4, locals := 24 } : Room) #[(.ref xa), (.int (0 : Int32)), (.int (2 : Int32))] h0 (Q_rTBU_2 Z xa xk xc0 xc1 h0) := by
  refine oCon.of (plainFor_of_name pn_3) ?_
  intro p e s m below meth c T X hx hby hml hown hnm hret hlk hZ e0
  have hml : c.maxLocals = 5 := hml
  have K : oKp h0 h0 [] [] := oKp.nil _ _
  refine oWk.cast (g' := (mkF m 0 #[rv xa, iv 0, iv 2, uu, uu] [])) (by first | rfl | (simp [entryFrame, mkF, argsToLocals, Value.category]; done)) ?_
  refine oWk.st (fun _ kt => zI X hx hby d19_0 rfl rfl kt) ?_
  have lt_xa := V_xa.lt
  have Oh := K.old O0 all0
  obtain ⟨_, T, h, Lc2, X, e0, hQ, st⟩ := (cs6 hw).run X hx hZ hown e0 (A := [(.int (2 : Int32))]) rfl (rNBF_2 l Z a0 hw []  h0 Oh ) (W := 0) (by decide) hml (Ls := #[rv xa, iv 0, iv 2, uu, uu]) rfl (rest := []) rfl rfl hby d19_1
  obtain ⟨nb1, nk1, rfl, K1, gn_nb1, V_nb1⟩ := hQ
  have ge_nb1 := Nat.le_trans K.le gn_nb1
  have ne_xa_nb1 : xa ≠ nb1 := Nat.ne_of_lt (Nat.lt_of_lt_of_le lt_xa gn_nb1)
  have K := K.call K1 all0
  refine oWk.to (mkF m 14 #[rv xa, iv 0, iv 2, rv nb1, iv 0] []) (fun _ kt => st _ (zTn X hx hby d19_4 rfl rfl rfl (l' := #[rv xa, iv 0, iv 2, rv nb1, uu]) rfl (zK X hx hby d19_5 rfl (zS X hx hby d19_6 rfl rfl (l' := #[rv xa, iv 0, iv 2, rv nb1, iv 0]) rfl (zJ X hx hby d19_8 rfl rfl (zI X hx hby d19_10 rfl rfl (zN X hx hby d19_11 rfl rfl (tlt (by decide)).2.1 kt))))))) ?_
  refine oWk.st (fun _ kt => zA X hx hby d19_14 rfl rfl rfl (zJ X hx hby d19_15 rfl rfl (zA X hx hby d19_17 rfl rfl rfl (zI X hx hby d19_18 rfl rfl kt)))) ?_
  have V_xa := (V_xa.keep K1.1 nin0)
  refine oWk.st (fun _ kt => oLdC X hx hZ e0 V_xa (0 : Int32) (.int xc0) ⟨by decide, by decide⟩ rfl hby d19_19 rfl rfl kt) ?_
  have Oh := K.old O0 all0
  obtain ⟨_, T, h, Lc5, X, e0, hQ, st⟩ := (cs7 hw).run X hx hZ hown e0 (A := [(.ref nb1), (.int (0 : Int32)), (.int xc0)]) rfl (rPut_2_0 l Z a0 hw [] nb1 nk1 xc0 (0 : Int32) (0 : Int32) (0 : Int32) (0 : Int32) h Oh S__assertionsDisabled S_HI_BYTE_SHIFT S_LO_BYTE_SHIFT (Nat.le_trans O0.1 ge_nb1) V_nb1) (W := 0) (by decide) hml (Ls := #[rv xa, iv 0, iv 2, rv nb1, iv 0]) rfl (rest := []) rfl rfl hby d19_20
  obtain ⟨rfl, K4, V_nb1⟩ := hQ
  have K := K.call K4 (allS (Or.inr ge_nb1) all0)
  refine oWk.to (mkF m 14 #[rv xa, iv 1, iv 2, rv nb1, iv 1] []) (fun _ kt => st _ (zC X hx hby d19_23 rfl rfl (l' := #[rv xa, iv ((0 : Int32) + (1 : Int32)), iv 2, rv nb1, iv 0]) rfl (zC X hx hby d19_26 rfl rfl (l' := #[rv xa, iv 1, iv 2, rv nb1, iv ((0 : Int32) + (1 : Int32))]) rfl (zG X hx hby d19_29 rfl (pc' := 8) rfl (zJ X hx hby d19_8 rfl rfl (zI X hx hby d19_10 rfl rfl (zN X hx hby d19_11 rfl rfl (tlt (by decide)).2.1 kt))))))) ?_
  refine oWk.st (fun _ kt => zA X hx hby d19_14 rfl rfl rfl (zJ X hx hby d19_15 rfl rfl (zA X hx hby d19_17 rfl rfl rfl (zI X hx hby d19_18 rfl rfl kt)))) ?_
  have V_xa := (V_xa.keep K4.1 (ninS ne_xa_nb1 nin0))
  refine oWk.st (fun _ kt => oLdC X hx hZ e0 V_xa (1 : Int32) (.int xc1) ⟨by decide, by decide⟩ rfl hby d19_19 rfl rfl kt) ?_
  have Oh := K.old O0 all0
  obtain ⟨_, T, h, Lc8, X, e0, hQ, st⟩ := (cs7 hw).run X hx hZ hown e0 (A := [(.ref nb1), (.int (1 : Int32)), (.int xc1)]) rfl (rPut_2_1 l Z a0 hw [] nb1 nk1 xc1 ((xc0 >>> ((0 : Int32) &&& 31)).toInt8.toInt32) ((xc0 >>> ((8 : Int32) &&& 31)).toInt8.toInt32) (0 : Int32) (0 : Int32) h Oh S__assertionsDisabled S_HI_BYTE_SHIFT S_LO_BYTE_SHIFT (Nat.le_trans O0.1 ge_nb1) V_nb1) (W := 0) (by decide) hml (Ls := #[rv xa, iv 1, iv 2, rv nb1, iv 1]) rfl (rest := []) rfl rfl hby d19_20
  obtain ⟨rfl, K7, V_nb1⟩ := hQ
  have K := K.call K7 (allS (Or.inr ge_nb1) all0)
  refine oWk.to (mkF m 32 #[rv xa, iv 2, iv 2, rv nb1, iv 2] []) (fun _ kt => st _ (zC X hx hby d19_23 rfl rfl (l' := #[rv xa, iv ((1 : Int32) + (1 : Int32)), iv 2, rv nb1, iv 1]) rfl (zC X hx hby d19_26 rfl rfl (l' := #[rv xa, iv 2, iv 2, rv nb1, iv ((1 : Int32) + (1 : Int32))]) rfl (zG X hx hby d19_29 rfl (pc' := 8) rfl (zJ X hx hby d19_8 rfl rfl (zI X hx hby d19_10 rfl rfl (zY X hx hby d19_11 rfl rfl (flt (by decide)).2.1 (pc' := 32) rfl kt))))))) ?_
  refine oWk.to (mkF m 33 #[rv xa, iv 2, iv 2, rv nb1, iv 2] [(.ref nb1)]) (fun _ kt => zA X hx hby d19_32 rfl rfl rfl kt) ?_
  exact oRetA X hx hlk hret rfl rfl (hb hby d19_33) (by rw [e0]; exact ⟨nb1, nk1, rfl, K, ge_nb1, V_nb1⟩) (by decide) (by decide)
def Q_rGC_2_0 (Z : State) (xb : Addr) (xk : ClassId) (xc0 xc1 : Int32) (h0 : Heap) (v : Option Value) (h : Heap) (L : List Loc) : Prop := v = some (.int xc0) ∧ h = h0 ∧ oKp h0 h [] L
theorem rGC_2_0 (l : Launch) (Z : State) (a0 : Array Value) (hw : oHW a0 Z) (ws : List Jvm.Cond) (xb : Addr) (xk : ClassId) (xc0 xc1 : Int32) (h0 : Heap) (O0 : Ext Z.heap h0) (S__assertionsDisabled : Sta Z Z.heap Y1 Y3 "Z" (.int (1 : Int32))) (S_HI_BYTE_SHIFT : Sta Z Z.heap Y1 "HI_BYTE_SHIFT" "I" (.int (0 : Int32))) (S_LO_BYTE_SHIFT : Sta Z Z.heap Y1 "LO_BYTE_SHIFT" "I" (.int (8 : Int32))) (hr : 0 ≤ xc0.toInt ∧ xc0.toInt < 65536) (V_xb : Arv Z h0 xb xk .byte (4 : Int32) [(iu0 xc0), (iu8 xc0), (iu0 xc1), (iu8 xc1)] (.int (0 : Int32))) :
    oCon l Z yy12 jdk_52_method_5_code 2 (some .char) ws ({ frames := 0, cells := 0, slots := 0, locals := 0 } : Room) #[(.ref xb), (.int (0 : Int32))] h0 (Q_rGC_2_0 Z xb xk xc0 xc1 h0) := by
  refine oCon.of (plainFor_of_name pn_3) ?_
  intro p e s m below meth c T X hx hby hml hown hnm hret hlk hZ e0
  have hml : c.maxLocals = 2 := hml
  have K : oKp h0 h0 [] [] := oKp.nil _ _
  refine oWk.cast (g' := (mkF m 0 #[rv xb, iv 0] [])) (by first | rfl | (simp [entryFrame, mkF, argsToLocals, Value.category]; done)) ?_
  have Oh := K.old O0 all0
  obtain ⟨T, X, e0, st⟩ := getS2 X hx hZ hown (host := "") (Or.inl (oW hw 100 rfl)) Via.refl e0 (S__assertionsDisabled.ext Oh) (g := (mkF m 0 #[rv xb, iv 0] [])) rfl (hb hby d23_0)
  refine oWk.to (mkF m 33 #[rv xb, iv 0] [(.ref xb)]) (fun _ kt => st _ (zF X hx hby d23_3 rfl rfl ((if0 _ _).trans (feq (by decide)).2) (pc' := 28) rfl (zI X hx hby d23_28 rfl rfl (zK X hx hby d23_29 rfl (XS.ishl X.here hx rfl (hb hby d23_30) rfl (zSn X hx hby d23_31 rfl rfl (l' := #[rv xb, iv 0]) rfl (zA X hx hby d23_32 rfl rfl rfl kt))))))) ?_
  refine oWk.st (fun _ kt => zI X hx hby d23_33 rfl rfl (zC X hx hby d23_34 rfl rfl (l' := #[rv xb, iv ((0 : Int32) + (1 : Int32))]) rfl (oLdB X hx hZ e0 V_xb (0 : Int32) (iu0 xc0) ⟨by decide, by decide⟩ rfl hby d23_37 rfl rfl (zM X hx hby d23_38 rfl (XS.iand X.here hx rfl (hb hby d23_41) rfl kt))))) ?_
  obtain ⟨T, X, e0, st⟩ := getS2 X hx hZ hown (host := "") (Or.inl (oW hw 101 rfl)) Via.refl e0 (S_HI_BYTE_SHIFT.ext Oh) (g := (mkF m 42 #[rv xb, iv 1] [(.int (((xc0 >>> ((0 : Int32) &&& 31)).toInt8.toInt32) &&& (255 : Int32)))])) rfl (hb hby d23_42)
  refine oWk.to (mkF m 53 #[rv xb, iv 1] [(.int (((xc0 >>> ((8 : Int32) &&& 31)).toInt8.toInt32) &&& (255 : Int32))), (.int ((((xc0 >>> ((0 : Int32) &&& 31)).toInt8.toInt32) &&& (255 : Int32)) <<< ((0 : Int32) &&& 31)))]) (fun _ kt => st _ (XS.ishl X.here hx rfl (hb hby d23_45) rfl (zA X hx hby d23_46 rfl rfl rfl (zI X hx hby d23_47 rfl rfl (oLdB X hx hZ e0 V_xb (1 : Int32) (iu8 xc0) ⟨by decide, by decide⟩ rfl hby d23_48 rfl rfl (zM X hx hby d23_49 rfl (XS.iand X.here hx rfl (hb hby d23_52) rfl kt))))))) ?_
  obtain ⟨T, X, e0, st⟩ := getS2 X hx hZ hown (host := "") (Or.inl (oW hw 102 rfl)) Via.refl e0 (S_LO_BYTE_SHIFT.ext Oh) (g := (mkF m 53 #[rv xb, iv 1] [(.int (((xc0 >>> ((8 : Int32) &&& 31)).toInt8.toInt32) &&& (255 : Int32))), (.int ((((xc0 >>> ((0 : Int32) &&& 31)).toInt8.toInt32) &&& (255 : Int32)) <<< ((0 : Int32) &&& 31)))])) rfl (hb hby d23_53)
  refine oWk.to (mkF m 59 #[rv xb, iv 1] [(.int ((((((xc0 >>> ((0 : Int32) &&& 31)).toInt8.toInt32) &&& (255 : Int32)) <<< ((0 : Int32) &&& 31)) ||| ((((xc0 >>> ((8 : Int32) &&& 31)).toInt8.toInt32) &&& (255 : Int32)) <<< ((8 : Int32) &&& 31))).toUInt32.toUInt16.toUInt32.toInt32))]) (fun _ kt => st _ (XS.ishl X.here hx rfl (hb hby d23_56) rfl (XS.ior X.here hx rfl (hb hby d23_57) rfl (XS.i2c X.here hx rfl (hb hby d23_58) rfl kt)))) ?_
  show oWk _ _ _ _ T (mkF m 59 #[rv xb, iv 1] [(.int ((((((xc0 >>> ((0 : Int32) &&& 31)).toInt8.toInt32) &&& (255 : Int32)) <<< ((0 : Int32) &&& 31)) ||| ((((xc0 >>> ((8 : Int32) &&& 31)).toInt8.toInt32) &&& (255 : Int32)) <<< ((8 : Int32) &&& 31))).toUInt32.toUInt16.toUInt32.toInt32))])
  rw [oU16 hr]
  show oWk _ _ _ _ T (mkF m 59 #[rv xb, iv 1] [(.int xc0)])
  exact oRetN X hx hlk hret (Or.inr (Or.inl rfl)) (show narrow .char (.int xc0) = .int xc0 from congrArg Value.int (oChrU hr)) (hb hby d23_59) (by rw [e0]; exact ⟨rfl, rfl, K⟩) (by decide) (by decide)
def Q_rGC_2_1 (Z : State) (xb : Addr) (xk : ClassId) (xc0 xc1 : Int32) (h0 : Heap) (v : Option Value) (h : Heap) (L : List Loc) : Prop := v = some (.int xc1) ∧ h = h0 ∧ oKp h0 h [] L
theorem rGC_2_1 (l : Launch) (Z : State) (a0 : Array Value) (hw : oHW a0 Z) (ws : List Jvm.Cond) (xb : Addr) (xk : ClassId) (xc0 xc1 : Int32) (h0 : Heap) (O0 : Ext Z.heap h0) (S__assertionsDisabled : Sta Z Z.heap Y1 Y3 "Z" (.int (1 : Int32))) (S_HI_BYTE_SHIFT : Sta Z Z.heap Y1 "HI_BYTE_SHIFT" "I" (.int (0 : Int32))) (S_LO_BYTE_SHIFT : Sta Z Z.heap Y1 "LO_BYTE_SHIFT" "I" (.int (8 : Int32))) (hr : 0 ≤ xc1.toInt ∧ xc1.toInt < 65536) (V_xb : Arv Z h0 xb xk .byte (4 : Int32) [(iu0 xc0), (iu8 xc0), (iu0 xc1), (iu8 xc1)] (.int (0 : Int32))) :
    oCon l Z yy12 jdk_52_method_5_code 2 (some .char) ws ({ frames := 0, cells := 0, slots := 0, locals := 0 } : Room) #[(.ref xb), (.int (1 : Int32))] h0 (Q_rGC_2_1 Z xb xk xc0 xc1 h0) := by
  refine oCon.of (plainFor_of_name pn_3) ?_
  intro p e s m below meth c T X hx hby hml hown hnm hret hlk hZ e0
  have hml : c.maxLocals = 2 := hml
  have K : oKp h0 h0 [] [] := oKp.nil _ _
  refine oWk.cast (g' := (mkF m 0 #[rv xb, iv 1] [])) (by first | rfl | (simp [entryFrame, mkF, argsToLocals, Value.category]; done)) ?_
  have Oh := K.old O0 all0
  obtain ⟨T, X, e0, st⟩ := getS2 X hx hZ hown (host := "") (Or.inl (oW hw 100 rfl)) Via.refl e0 (S__assertionsDisabled.ext Oh) (g := (mkF m 0 #[rv xb, iv 1] [])) rfl (hb hby d23_0)
  refine oWk.to (mkF m 33 #[rv xb, iv 2] [(.ref xb)]) (fun _ kt => st _ (zF X hx hby d23_3 rfl rfl ((if0 _ _).trans (feq (by decide)).2) (pc' := 28) rfl (zI X hx hby d23_28 rfl rfl (zK X hx hby d23_29 rfl (XS.ishl X.here hx rfl (hb hby d23_30) rfl (zSn X hx hby d23_31 rfl rfl (l' := #[rv xb, iv 2]) rfl (zA X hx hby d23_32 rfl rfl rfl kt))))))) ?_
  refine oWk.st (fun _ kt => zI X hx hby d23_33 rfl rfl (zC X hx hby d23_34 rfl rfl (l' := #[rv xb, iv ((2 : Int32) + (1 : Int32))]) rfl (oLdB X hx hZ e0 V_xb (2 : Int32) (iu0 xc1) ⟨by decide, by decide⟩ rfl hby d23_37 rfl rfl (zM X hx hby d23_38 rfl (XS.iand X.here hx rfl (hb hby d23_41) rfl kt))))) ?_
  obtain ⟨T, X, e0, st⟩ := getS2 X hx hZ hown (host := "") (Or.inl (oW hw 101 rfl)) Via.refl e0 (S_HI_BYTE_SHIFT.ext Oh) (g := (mkF m 42 #[rv xb, iv 3] [(.int (((xc1 >>> ((0 : Int32) &&& 31)).toInt8.toInt32) &&& (255 : Int32)))])) rfl (hb hby d23_42)
  refine oWk.to (mkF m 53 #[rv xb, iv 3] [(.int (((xc1 >>> ((8 : Int32) &&& 31)).toInt8.toInt32) &&& (255 : Int32))), (.int ((((xc1 >>> ((0 : Int32) &&& 31)).toInt8.toInt32) &&& (255 : Int32)) <<< ((0 : Int32) &&& 31)))]) (fun _ kt => st _ (XS.ishl X.here hx rfl (hb hby d23_45) rfl (zA X hx hby d23_46 rfl rfl rfl (zI X hx hby d23_47 rfl rfl (oLdB X hx hZ e0 V_xb (3 : Int32) (iu8 xc1) ⟨by decide, by decide⟩ rfl hby d23_48 rfl rfl (zM X hx hby d23_49 rfl (XS.iand X.here hx rfl (hb hby d23_52) rfl kt))))))) ?_
  obtain ⟨T, X, e0, st⟩ := getS2 X hx hZ hown (host := "") (Or.inl (oW hw 102 rfl)) Via.refl e0 (S_LO_BYTE_SHIFT.ext Oh) (g := (mkF m 53 #[rv xb, iv 3] [(.int (((xc1 >>> ((8 : Int32) &&& 31)).toInt8.toInt32) &&& (255 : Int32))), (.int ((((xc1 >>> ((0 : Int32) &&& 31)).toInt8.toInt32) &&& (255 : Int32)) <<< ((0 : Int32) &&& 31)))])) rfl (hb hby d23_53)
  refine oWk.to (mkF m 59 #[rv xb, iv 3] [(.int ((((((xc1 >>> ((0 : Int32) &&& 31)).toInt8.toInt32) &&& (255 : Int32)) <<< ((0 : Int32) &&& 31)) ||| ((((xc1 >>> ((8 : Int32) &&& 31)).toInt8.toInt32) &&& (255 : Int32)) <<< ((8 : Int32) &&& 31))).toUInt32.toUInt16.toUInt32.toInt32))]) (fun _ kt => st _ (XS.ishl X.here hx rfl (hb hby d23_56) rfl (XS.ior X.here hx rfl (hb hby d23_57) rfl (XS.i2c X.here hx rfl (hb hby d23_58) rfl kt)))) ?_
  show oWk _ _ _ _ T (mkF m 59 #[rv xb, iv 3] [(.int ((((((xc1 >>> ((0 : Int32) &&& 31)).toInt8.toInt32) &&& (255 : Int32)) <<< ((0 : Int32) &&& 31)) ||| ((((xc1 >>> ((8 : Int32) &&& 31)).toInt8.toInt32) &&& (255 : Int32)) <<< ((8 : Int32) &&& 31))).toUInt32.toUInt16.toUInt32.toInt32))])
  rw [oU16 hr]
  show oWk _ _ _ _ T (mkF m 59 #[rv xb, iv 3] [(.int xc1)])
  exact oRetN X hx hlk hret (Or.inr (Or.inl rfl)) (show narrow .char (.int xc1) = .int xc1 from congrArg Value.int (oChrU hr)) (hb hby d23_59) (by rw [e0]; exact ⟨rfl, rfl, K⟩) (by decide) (by decide)
def Q_rC3U_2 (Z : State) (xa : Addr) (xk : ClassId) (xc0 xc1 : Int32) (h0 : Heap) (v : Option Value) (h : Heap) (L : List Loc) : Prop := ∃ (nb : Addr) (nk : ClassId), v = some (.ref nb) ∧ oKp h0 h [] L ∧ (h0.size ≤ nb) ∧ (Arv Z h nb nk .byte (4 : Int32) [(iu0 xc0), (iu8 xc0), (iu0 xc1), (iu8 xc1)] (.int (0 : Int32)))
theorem rC3U_2 (l : Launch) (Z : State) (a0 : Array Value) (hw : oHW a0 Z) (ws : List Jvm.Cond) (xa : Addr) (xk : ClassId) (xc0 xc1 : Int32) (h0 : Heap) (O0 : Ext Z.heap h0) (S__assertionsDisabled : Sta Z Z.heap Y1 Y3 "Z" (.int (1 : Int32))) (S_HI_BYTE_SHIFT : Sta Z Z.heap Y1 "HI_BYTE_SHIFT" "I" (.int (0 : Int32))) (S_LO_BYTE_SHIFT : Sta Z Z.heap Y1 "LO_BYTE_SHIFT" "I" (.int (8 : Int32))) (V_xa : Arv Z h0 xa xk .char (2 : Int32) [(.int xc0), (.int xc1)] (.int (0 : Int32))) (hr0 : 0 ≤ xc0.toInt ∧ xc0.toInt < 65536) (hr1 : 0 ≤ xc1.toInt ∧ xc1.toInt < 65536) (hU : ((255 : Int32) < xc0) ∨ (¬ (255 : Int32) < xc0 ∧ (255 : Int32) < xc1)) :
    oCon l Z yy6 jdk_52_method_16_code 6 (some (.array .byte)) ws ({ frames := 3, cells := 2, slots := 6, locals := 40 } : Room) #[(.ref xa), (.int (0 : Int32)), (.int (2 : Int32))] h0 (Q_rC3U_2 Z xa xk xc0 xc1 h0) := by
  refine oCon.of (plainFor_of_name pn_3) ?_
  intro p e s m below meth c T X hx hby hml hown hnm hret hlk hZ e0
  have hml : c.maxLocals = 6 := hml
  have K : oKp h0 h0 [] [] := oKp.nil _ _
  refine oWk.cast (g' := (mkF m 0 #[rv xa, iv 0, iv 2, uu, uu, uu] [])) (by first | rfl | (simp [entryFrame, mkF, argsToLocals, Value.category]; done)) ?_
  rcases hU with hgt | ⟨hle0, hgt⟩
  · show oWk _ _ _ _ T (mkF m 0 #[rv xa, iv 0, iv 2, uu, uu, uu] [])
    refine oWk.st (fun _ kt => zI X hx hby d7_0 rfl rfl kt) ?_
    obtain ⟨o1, g1⟩ : ∃ z, z = h0.size := ⟨_, rfl⟩
    have ne_xa_o1 : xa ≠ o1 := Nat.ne_of_lt (Nat.lt_of_lt_of_le V_xa.lt (Nat.le_of_eq g1.symm))
    have ge_o1 : h0.size ≤ o1 := Nat.le_trans K.le (Nat.le_of_eq g1.symm)
    obtain ⟨T, h, k1, X, e0, E1, A1, st⟩ := newP X hx hZ (oW hw 17 rfl) e0 (g := (mkF m 1 #[rv xa, iv 0, iv 2, uu, uu, uu] [(.int 2)])) rfl (hb hby d7_1) rfl (by decide) (cap := 2) (by decide) (by decide) (by decide) (by decide)
    rw [← g1] at A1 st
    have K := K.ext E1
    have V_o1 : Arv Z h o1 k1 .byte (2 : Int32) [(.int (0 : Int32)), (.int (0 : Int32))] (.int (0 : Int32)) := (Arv.new A1 (by decide)).pad (pad_rep [] (.int (0 : Int32)) 2)
    refine oWk.to (mkF m 9 #[rv xa, iv 0, iv 2, rv o1, uu, uu] [(.int 2), (.int 0), (.ref o1), (.int 0), (.ref xa)]) (fun _ kt => st _ (zTn X hx hby d7_3 rfl rfl rfl (l' := #[rv xa, iv 0, iv 2, rv o1, uu, uu]) rfl (zA X hx hby d7_4 rfl rfl rfl (zI X hx hby d7_5 rfl rfl (zA X hx hby d7_6 rfl rfl rfl (zK X hx hby d7_7 rfl (zI X hx hby d7_8 rfl rfl kt))))))) ?_
    have V_xa := (V_xa.ext E1)
    have Oh := K.old O0 all0
    obtain ⟨_, T, h, Lc3, X, e0, hQ, st⟩ := (cs1 hw).run X hx hZ hown e0 (A := [(.ref xa), (.int (0 : Int32)), (.ref o1), (.int (0 : Int32)), (.int (2 : Int32))]) rfl (rC5U_2_0 l Z a0 hw [] xa o1 xk k1 xc0 xc1 h Oh (Nat.le_trans O0.1 ge_o1) ne_xa_o1 V_xa V_o1 hgt) (W := 0) (by decide) hml (Ls := #[rv xa, iv 0, iv 2, rv o1, uu, uu]) rfl (rest := []) rfl rfl hby d7_9
    obtain ⟨rfl, K2⟩ := hQ
    have K := K.call K2 (allS (Or.inr ge_o1) all0)
    refine oWk.to (mkF m 22 #[rv xa, iv 0, iv 2, rv o1, iv 0, uu] [(.int 0), (.ref xa)]) (fun _ kt => st _ (zS X hx hby d7_12 rfl rfl (l' := #[rv xa, iv 0, iv 2, rv o1, iv 0, uu]) rfl (zJ X hx hby d7_14 rfl rfl (zI X hx hby d7_16 rfl rfl (zN X hx hby d7_17 rfl rfl (feq (by decide)).1 (zA X hx hby d7_20 rfl rfl rfl (zI X hx hby d7_21 rfl rfl kt))))))) ?_
    refine oWk.st (fun _ kt => zI X hx hby d7_22 rfl rfl kt) ?_
    have V_xa := (V_xa.keep K2.1 (ninS ne_xa_o1 nin0))
    have lt_xa := V_xa.lt
    have Oh := K.old O0 all0
    obtain ⟨_, T, h, Lc5, X, e0, hQ, st⟩ := (cs8 hw).run X hx hZ hown e0 (A := [(.ref xa), (.int (0 : Int32)), (.int (2 : Int32))]) rfl (rTBU_2 l Z a0 hw [] xa xk xc0 xc1 h Oh S__assertionsDisabled S_HI_BYTE_SHIFT S_LO_BYTE_SHIFT V_xa) (W := 0) (by decide) hml (Ls := #[rv xa, iv 0, iv 2, rv o1, iv 0, uu]) rfl (rest := []) rfl rfl hby d7_23
    obtain ⟨nb4, nk4, rfl, K4, gn_nb4, V_nb4⟩ := hQ
    have ge_nb4 := Nat.le_trans K.le gn_nb4
    have ne_xa_nb4 : xa ≠ nb4 := Nat.ne_of_lt (Nat.lt_of_lt_of_le lt_xa gn_nb4)
    have K := K.call K4 all0
    refine oWk.st (fun _ kt => st _ (zT X hx hby d7_26 rfl rfl rfl (l' := #[rv xa, iv 0, iv 2, rv o1, iv 0, rv nb4]) rfl (zB X hx hby d7_28 rfl rfl rfl (zJ X hx hby d7_30 rfl rfl kt)))) ?_
    have Oh := K.old O0 all0
    obtain ⟨T, L7, X, e0, K, st⟩ := (cs9 hw).pure X hx hZ hown e0 K (A := [(.ref nb4), (.int (0 : Int32))]) rfl (rGC_2_0 l Z a0 hw [] nb4 nk4 xc0 xc1 h Oh S__assertionsDisabled S_HI_BYTE_SHIFT S_LO_BYTE_SHIFT hr0 V_nb4) (fun _ _ _ q => q) (W := 0) (by decide) hml (Ls := #[rv xa, iv 0, iv 2, rv o1, iv 0, rv nb4]) rfl (rest := []) rfl rfl hby d7_32
    refine oWk.to (mkF m 56 #[rv xa, iv 0, iv 2, rv o1, iv 0, rv nb4] [(.ref nb4)]) (fun _ kt => st _ (zM X hx hby d7_35 rfl (zY X hx hby d7_38 rfl rfl (tlt hgt).2.2.1 (pc' := 54) rfl (zB X hx hby d7_54 rfl rfl rfl kt)))) ?_
    exact oRetA X hx hlk hret rfl rfl (hb hby d7_56) (by rw [e0]; exact ⟨nb4, nk4, rfl, K, ge_nb4, V_nb4⟩) (by decide) (by decide)
  · show oWk _ _ _ _ T (mkF m 0 #[rv xa, iv 0, iv 2, uu, uu, uu] [])
    refine oWk.st (fun _ kt => zI X hx hby d7_0 rfl rfl kt) ?_
    obtain ⟨o8, g8⟩ : ∃ z, z = h0.size := ⟨_, rfl⟩
    have ne_xa_o8 : xa ≠ o8 := Nat.ne_of_lt (Nat.lt_of_lt_of_le V_xa.lt (Nat.le_of_eq g8.symm))
    have ge_o8 : h0.size ≤ o8 := Nat.le_trans K.le (Nat.le_of_eq g8.symm)
    obtain ⟨T, h, k8, X, e0, E8, A8, st⟩ := newP X hx hZ (oW hw 17 rfl) e0 (g := (mkF m 1 #[rv xa, iv 0, iv 2, uu, uu, uu] [(.int 2)])) rfl (hb hby d7_1) rfl (by decide) (cap := 2) (by decide) (by decide) (by decide) (by decide)
    rw [← g8] at A8 st
    have K := K.ext E8
    have V_o8 : Arv Z h o8 k8 .byte (2 : Int32) [(.int (0 : Int32)), (.int (0 : Int32))] (.int (0 : Int32)) := (Arv.new A8 (by decide)).pad (pad_rep [] (.int (0 : Int32)) 2)
    refine oWk.to (mkF m 9 #[rv xa, iv 0, iv 2, rv o8, uu, uu] [(.int 2), (.int 0), (.ref o8), (.int 0), (.ref xa)]) (fun _ kt => st _ (zTn X hx hby d7_3 rfl rfl rfl (l' := #[rv xa, iv 0, iv 2, rv o8, uu, uu]) rfl (zA X hx hby d7_4 rfl rfl rfl (zI X hx hby d7_5 rfl rfl (zA X hx hby d7_6 rfl rfl rfl (zK X hx hby d7_7 rfl (zI X hx hby d7_8 rfl rfl kt))))))) ?_
    have V_xa := (V_xa.ext E8)
    have Oh := K.old O0 all0
    obtain ⟨_, T, h, Lc10, X, e0, hQ, st⟩ := (cs1 hw).run X hx hZ hown e0 (A := [(.ref xa), (.int (0 : Int32)), (.ref o8), (.int (0 : Int32)), (.int (2 : Int32))]) rfl (rC5U_2_1 l Z a0 hw [] xa o8 xk k8 xc0 xc1 h Oh (Nat.le_trans O0.1 ge_o8) ne_xa_o8 V_xa V_o8 hle0 hgt) (W := 0) (by decide) hml (Ls := #[rv xa, iv 0, iv 2, rv o8, uu, uu]) rfl (rest := []) rfl rfl hby d7_9
    obtain ⟨rfl, K9⟩ := hQ
    have K := K.call K9 (allS (Or.inr ge_o8) all0)
    refine oWk.to (mkF m 22 #[rv xa, iv 0, iv 2, rv o8, iv 1, uu] [(.int 0), (.ref xa)]) (fun _ kt => st _ (zS X hx hby d7_12 rfl rfl (l' := #[rv xa, iv 0, iv 2, rv o8, iv 1, uu]) rfl (zJ X hx hby d7_14 rfl rfl (zI X hx hby d7_16 rfl rfl (zN X hx hby d7_17 rfl rfl (feq (by decide)).1 (zA X hx hby d7_20 rfl rfl rfl (zI X hx hby d7_21 rfl rfl kt))))))) ?_
    refine oWk.st (fun _ kt => zI X hx hby d7_22 rfl rfl kt) ?_
    have V_xa := (V_xa.keep K9.1 (ninS ne_xa_o8 nin0))
    have lt_xa := V_xa.lt
    have Oh := K.old O0 all0
    obtain ⟨_, T, h, Lc12, X, e0, hQ, st⟩ := (cs8 hw).run X hx hZ hown e0 (A := [(.ref xa), (.int (0 : Int32)), (.int (2 : Int32))]) rfl (rTBU_2 l Z a0 hw [] xa xk xc0 xc1 h Oh S__assertionsDisabled S_HI_BYTE_SHIFT S_LO_BYTE_SHIFT V_xa) (W := 0) (by decide) hml (Ls := #[rv xa, iv 0, iv 2, rv o8, iv 1, uu]) rfl (rest := []) rfl rfl hby d7_23
    obtain ⟨nb11, nk11, rfl, K11, gn_nb11, V_nb11⟩ := hQ
    have ge_nb11 := Nat.le_trans K.le gn_nb11
    have ne_xa_nb11 : xa ≠ nb11 := Nat.ne_of_lt (Nat.lt_of_lt_of_le lt_xa gn_nb11)
    have K := K.call K11 all0
    refine oWk.st (fun _ kt => st _ (zT X hx hby d7_26 rfl rfl rfl (l' := #[rv xa, iv 0, iv 2, rv o8, iv 1, rv nb11]) rfl (zB X hx hby d7_28 rfl rfl rfl (zJ X hx hby d7_30 rfl rfl kt)))) ?_
    have Oh := K.old O0 all0
    obtain ⟨T, L14, X, e0, K, st⟩ := (cs9 hw).pure X hx hZ hown e0 K (A := [(.ref nb11), (.int (1 : Int32))]) rfl (rGC_2_1 l Z a0 hw [] nb11 nk11 xc0 xc1 h Oh S__assertionsDisabled S_HI_BYTE_SHIFT S_LO_BYTE_SHIFT hr1 V_nb11) (fun _ _ _ q => q) (W := 0) (by decide) hml (Ls := #[rv xa, iv 0, iv 2, rv o8, iv 1, rv nb11]) rfl (rest := []) rfl rfl hby d7_32
    refine oWk.to (mkF m 56 #[rv xa, iv 0, iv 2, rv o8, iv 1, rv nb11] [(.ref nb11)]) (fun _ kt => st _ (zM X hx hby d7_35 rfl (zY X hx hby d7_38 rfl rfl (tlt hgt).2.2.1 (pc' := 54) rfl (zB X hx hby d7_54 rfl rfl rfl kt)))) ?_
    exact oRetA X hx hlk hret rfl rfl (hb hby d7_56) (by rw [e0]; exact ⟨nb11, nk11, rfl, K, ge_nb11, V_nb11⟩) (by decide) (by decide)
def Q_rCoU_2 (Z : State) (xb : Addr) (xk : ClassId) (xc0 xc1 : Int32) (h0 : Heap) (v : Option Value) (h : Heap) (L : List Loc) : Prop := v = some (.int (1 : Int32)) ∧ h = h0 ∧ oKp h0 h [] L
theorem rCoU_2 (l : Launch) (Z : State) (a0 : Array Value) (hw : oHW a0 Z) (ws : List Jvm.Cond) (xb : Addr) (xk : ClassId) (xc0 xc1 : Int32) (h0 : Heap) (O0 : Ext Z.heap h0) (V_xb : Arv Z h0 xb xk .byte (4 : Int32) [(iu0 xc0), (iu8 xc0), (iu0 xc1), (iu8 xc1)] (.int (0 : Int32))) :
    oCon l Z yy7 jdk_52_method_15_code 2 (some .byte) ws ({ frames := 0, cells := 0, slots := 0, locals := 0 } : Room) #[(.ref xb), (.int (2 : Int32))] h0 (Q_rCoU_2 Z xb xk xc0 xc1 h0) := by
  refine oCon.of (plainFor_of_name pn_3) ?_
  intro p e s m below meth c T X hx hby hml hown hnm hret hlk hZ e0
  have hml : c.maxLocals = 2 := hml
  have K : oKp h0 h0 [] [] := oKp.nil _ _
  refine oWk.cast (g' := (mkF m 0 #[rv xb, iv 2] [])) (by first | rfl | (simp [entryFrame, mkF, argsToLocals, Value.category]; done)) ?_
  refine oWk.to (mkF m 8 #[rv xb, iv 2] [(.int 1)]) (fun _ kt => zI X hx hby d9_0 rfl rfl (zA X hx hby d9_1 rfl rfl rfl (oAl X hx hZ e0 V_xb hby d9_2 rfl rfl (XS.isub X.here hx rfl (hb hby d9_3) rfl (zL X hx hby d9_4 rfl (XS.iushr X.here hx rfl (hb hby d9_6) rfl (XS.i2b X.here hx rfl (hb hby d9_7) rfl kt))))))) ?_
  exact oRetN X hx hlk hret (Or.inl rfl) rfl (hb hby d9_8) (by rw [e0]; exact ⟨rfl, rfl, K⟩) (by decide) (by decide)
def Q_rI4U_2 (Z : State) (xs xa : Addr) (xk : ClassId) (xz : Int32) (xu xv : Value) (xc0 xc1 : Int32) (h0 : Heap) (v : Option Value) (h : Heap) (L : List Loc) : Prop := ∃ (nb : Addr) (nk : ClassId), v = none ∧ oKp h0 h [xs] L ∧ (Exa Z h xs Y0) ∧ (Fld Z h xs Y0 "coder" "B" (.int (1 : Int32))) ∧ (Fld Z h xs Y0 "value" "[B" (.ref nb)) ∧ (h0.size ≤ nb) ∧ (Arv Z h nb nk .byte (4 : Int32) [(iu0 xc0), (iu8 xc0), (iu0 xc1), (iu8 xc1)] (.int (0 : Int32)))
theorem rI4U_2 (l : Launch) (Z : State) (a0 : Array Value) (hw : oHW a0 Z) (ws : List Jvm.Cond) (xs xa : Addr) (xk : ClassId) (xz : Int32) (xu xv : Value) (xc0 xc1 : Int32) (h0 : Heap) (O0 : Ext Z.heap h0) (S_COMPACT_STRINGS : Sta Z Z.heap Y0 Y6 "Z" (.int xz)) (hz : ¬ xz = (0 : Int32)) (S__assertionsDisabled : Sta Z Z.heap Y1 Y3 "Z" (.int (1 : Int32))) (S_HI_BYTE_SHIFT : Sta Z Z.heap Y1 "HI_BYTE_SHIFT" "I" (.int (0 : Int32))) (S_LO_BYTE_SHIFT : Sta Z Z.heap Y1 "LO_BYTE_SHIFT" "I" (.int (8 : Int32))) (og_xs : Z.heap.size ≤ xs) (E_xs : Exa Z h0 xs Y0) (F_value_xs : Fld Z h0 xs Y0 "value" "[B" xu) (F_coder_xs : Fld Z h0 xs Y0 "coder" "B" xv) (V_xa : Arv Z h0 xa xk .char (2 : Int32) [(.int xc0), (.int xc1)] (.int (0 : Int32))) (hr0 : 0 ≤ xc0.toInt ∧ xc0.toInt < 65536) (hr1 : 0 ≤ xc1.toInt ∧ xc1.toInt < 65536) (hU : ((255 : Int32) < xc0) ∨ (¬ (255 : Int32) < xc0 ∧ (255 : Int32) < xc1)) :
    oCon l Z yy3 jdk_42_method_149_code 6 none ws ({ frames := 4, cells := 2, slots := 6, locals := 57 } : Room) #[(.ref xs), (.ref xa), (.int (0 : Int32)), (.int (2 : Int32)), .null] h0 (Q_rI4U_2 Z xs xa xk xz xu xv xc0 xc1 h0) := by
  refine oCon.of (plainFor_of_name pn_2) ?_
  intro p e s m below meth c T X hx hby hml hown hnm hret hlk hZ e0
  have hml : c.maxLocals = 6 := hml
  have K : oKp h0 h0 [xs] [] := oKp.nil _ _
  refine oWk.cast (g' := (mkF m 0 #[rv xs, rv xa, iv 0, iv 2, .val .null, uu] [])) (by first | rfl | (simp [entryFrame, mkF, argsToLocals, Value.category]; done)) ?_
  refine oWk.st (fun _ kt => zA X hx hby d2_0 rfl rfl rfl kt) ?_
  obtain ⟨T, X, e0, st⟩ := initO X hx hZ hown (oW hw 13 rfl) (oW hw 14 rfl) (oW hw 15 rfl) e0 (g := (mkF m 1 #[rv xs, rv xa, iv 0, iv 2, .val .null, uu] [(.ref xs)])) rfl (by rw [hml]; rfl) rfl (hb hby d2_1) (by decide) (W := 0) (Nat.le_of_eq rfl) (by decide)
  refine oWk.st (fun _ kt => st _ (zI X hx hby d2_4 rfl rfl (zF X hx hby d2_5 rfl rfl ((if0 _ _).trans (feq (by decide)).2) (pc' := 27) rfl kt))) ?_
  have Oh := K.old O0 (allS og_xs all0)
  obtain ⟨T, X, e0, st⟩ := getS2 X hx hZ hown (host := "") (Or.inl (oW hw 37 rfl)) Via.refl e0 (S_COMPACT_STRINGS.ext Oh) (g := (mkF m 27 #[rv xs, rv xa, iv 0, iv 2, .val .null, uu] [])) rfl (hb hby d2_27)
  refine oWk.st (fun _ kt => st _ (zH X hx hby d2_30 rfl rfl ((if0 _ _).trans (feq hz).1) (zA X hx hby d2_33 rfl rfl rfl (zI X hx hby d2_34 rfl rfl (zI X hx hby d2_35 rfl rfl kt))))) ?_
  have lt_xs := E_xs.lt
  have lt_xa := V_xa.lt
  obtain ⟨_, T, h, Lc2, X, e0, hQ, st⟩ := (cs2 hw).run X hx hZ hown e0 (A := [(.ref xa), (.int (0 : Int32)), (.int (2 : Int32))]) rfl (rC3U_2 l Z a0 hw [] xa xk xc0 xc1 h0 Oh S__assertionsDisabled S_HI_BYTE_SHIFT S_LO_BYTE_SHIFT V_xa hr0 hr1 hU) (W := 0) (by decide) hml (Ls := #[rv xs, rv xa, iv 0, iv 2, .val .null, uu]) rfl (rest := []) rfl rfl hby d2_36
  obtain ⟨nb1, nk1, rfl, K1, gn_nb1, V_nb1⟩ := hQ
  have ge_nb1 := Nat.le_trans K.le gn_nb1
  have ne_xs_nb1 : xs ≠ nb1 := Nat.ne_of_lt (Nat.lt_of_lt_of_le lt_xs gn_nb1)
  have ne_xa_nb1 : xa ≠ nb1 := Nat.ne_of_lt (Nat.lt_of_lt_of_le lt_xa gn_nb1)
  have K := K.call K1 all0
  refine oWk.st (fun _ kt => st _ (zT X hx hby d2_39 rfl rfl rfl (l' := #[rv xs, rv xa, iv 0, iv 2, .val .null, rv nb1]) rfl (zA X hx hby d2_41 rfl rfl rfl (zB X hx hby d2_42 rfl rfl rfl (zI X hx hby d2_44 rfl rfl kt))))) ?_
  have Oh := K.old O0 (allS og_xs all0)
  obtain ⟨T, L4, X, e0, K, st⟩ := (cs3 hw).pure X hx hZ hown e0 K (A := [(.ref nb1), (.int (2 : Int32))]) rfl (rCoU_2 l Z a0 hw [] nb1 nk1 xc0 xc1 h Oh V_nb1) (fun _ _ _ q => q) (W := 1) (by decide) hml (Ls := #[rv xs, rv xa, iv 0, iv 2, .val .null, rv nb1]) rfl (rest := [(.ref xs)]) rfl rfl hby d2_45
  refine oWk.st (fun _ kt => st _ kt) ?_
  have E_xs := (E_xs.keep K1.1)
  have F_coder_xs := (F_coder_xs.keep K1.1 nin0)
  obtain ⟨T, h, X, e0, W5, st⟩ := putFN X hx hZ hown (oW hw 23 rfl) Via.refl e0 F_coder_xs E_xs (Or.inr ⟨(oW hw 19 rfl), rfl, hnm⟩) (oW hw 4 rfl) (ty := .byte) (v' := .int (1 : Int32)) (by decide) rfl (by decide) (g := (mkF m 48 #[rv xs, rv xa, iv 0, iv 2, .val .null, rv nb1] [(.int 1), (.ref xs)])) rfl rfl (hb hby d2_48)
  have K := K.wr W5 (Or.inl (List.mem_of_getElem? (i := 0) rfl))
  have F_coder_xs := F_coder_xs.same W5
  refine oWk.st (fun _ kt => st _ (zA X hx hby d2_51 rfl rfl rfl (zB X hx hby d2_52 rfl rfl rfl kt))) ?_
  have E_xs := (E_xs.wr W5)
  have F_value_xs := ((F_value_xs.keep K1.1 nin0).other W5 (Or.inr (slot_ne (Or.inr (oW hw 18 rfl)) (Or.inr (oW hw 19 rfl)) (by decide) (t := (.array .byte)) (t' := .byte) (by decide) (by decide))))
  obtain ⟨T, h, X, e0, W6, st⟩ := putF X hx hZ hown (host := "") (Or.inl (oW hw 22 rfl)) Via.refl e0 F_value_xs E_xs (Or.inr ⟨(oW hw 18 rfl), rfl, hnm⟩) (oW hw 4 rfl) (ty := (.array .byte)) (by decide) rfl rfl (g := (mkF m 54 #[rv xs, rv xa, iv 0, iv 2, .val .null, rv nb1] [(.ref nb1), (.ref xs)])) rfl rfl (hb hby d2_54)
  have K := K.wr W6 (Or.inl (List.mem_of_getElem? (i := 0) rfl))
  have F_value_xs := F_value_xs.same W6
  refine oWk.to (mkF m 57 #[rv xs, rv xa, iv 0, iv 2, .val .null, rv nb1] []) (fun _ kt => st _ kt) ?_
  have E_xs := (E_xs.wr W6)
  have F_coder_xs := (F_coder_xs.other W6 (Or.inr (slot_ne (Or.inr (oW hw 19 rfl)) (Or.inr (oW hw 18 rfl)) (by decide) (t := .byte) (t' := (.array .byte)) (by decide) (by decide))))
  have V_nb1 := ((V_nb1.other W5 (Ne.symm ne_xs_nb1)).other W6 (Ne.symm ne_xs_nb1))
  exact oRetV X hx hlk hret (hb hby d2_57) (by rw [e0]; exact ⟨nb1, nk1, rfl, K, E_xs, F_coder_xs, F_value_xs, ge_nb1, V_nb1⟩) (by decide) (by decide)
def Q_rI1U_2 (Z : State) (xs xa : Addr) (xk : ClassId) (xz : Int32) (xu xv : Value) (xc0 xc1 : Int32) (h0 : Heap) (v : Option Value) (h : Heap) (L : List Loc) : Prop := ∃ (nb : Addr) (nk : ClassId), v = none ∧ oKp h0 h [xs] L ∧ (Exa Z h xs Y0) ∧ (Fld Z h xs Y0 "coder" "B" (.int (1 : Int32))) ∧ (Fld Z h xs Y0 "value" "[B" (.ref nb)) ∧ (h0.size ≤ nb) ∧ (Arv Z h nb nk .byte (4 : Int32) [(iu0 xc0), (iu8 xc0), (iu0 xc1), (iu8 xc1)] (.int (0 : Int32)))
theorem rI1U_2 (l : Launch) (Z : State) (a0 : Array Value) (hw : oHW a0 Z) (ws : List Jvm.Cond) (xs xa : Addr) (xk : ClassId) (xz : Int32) (xu xv : Value) (xc0 xc1 : Int32) (h0 : Heap) (O0 : Ext Z.heap h0) (S_COMPACT_STRINGS : Sta Z Z.heap Y0 Y6 "Z" (.int xz)) (hz : ¬ xz = (0 : Int32)) (S__assertionsDisabled : Sta Z Z.heap Y1 Y3 "Z" (.int (1 : Int32))) (S_HI_BYTE_SHIFT : Sta Z Z.heap Y1 "HI_BYTE_SHIFT" "I" (.int (0 : Int32))) (S_LO_BYTE_SHIFT : Sta Z Z.heap Y1 "LO_BYTE_SHIFT" "I" (.int (8 : Int32))) (og_xs : Z.heap.size ≤ xs) (E_xs : Exa Z h0 xs Y0) (F_value_xs : Fld Z h0 xs Y0 "value" "[B" xu) (F_coder_xs : Fld Z h0 xs Y0 "coder" "B" xv) (V_xa : Arv Z h0 xa xk .char (2 : Int32) [(.int xc0), (.int xc1)] (.int (0 : Int32))) (hr0 : 0 ≤ xc0.toInt ∧ xc0.toInt < 65536) (hr1 : 0 ≤ xc1.toInt ∧ xc1.toInt < 65536) (hU : ((255 : Int32) < xc0) ∨ (¬ (255 : Int32) < xc0 ∧ (255 : Int32) < xc1)) :
    oCon l Z yy4 jdk_42_method_3_code 2 none ws ({ frames := 5, cells := 2, slots := 6, locals := 74 } : Room) #[(.ref xs), (.ref xa)] h0 (Q_rI1U_2 Z xs xa xk xz xu xv xc0 xc1 h0) := by
  refine oCon.of (plainFor_of_name pn_2) ?_
  intro p e s m below meth c T X hx hby hml hown hnm hret hlk hZ e0
  have hml : c.maxLocals = 2 := hml
  have K : oKp h0 h0 [xs] [] := oKp.nil _ _
  refine oWk.cast (g' := (mkF m 0 #[rv xs, rv xa] [])) (by first | rfl | (simp [entryFrame, mkF, argsToLocals, Value.category]; done)) ?_
  refine oWk.st (fun _ kt => zA X hx hby d1_0 rfl rfl rfl (zA X hx hby d1_1 rfl rfl rfl (zK X hx hby d1_2 rfl (zA X hx hby d1_3 rfl rfl rfl (oAl X hx hZ e0 V_xa hby d1_4 rfl rfl (XS.aconstNull X.here hx rfl (hb hby d1_5) kt)))))) ?_
  have lt_xs := E_xs.lt
  have lt_xa := V_xa.lt
  have Oh := K.old O0 (allS og_xs all0)
  obtain ⟨_, T, h, Lc3, X, e0, hQ, st⟩ := (cs4 hw).run X hx hZ hown e0 (A := [(.ref xs), (.ref xa), (.int (0 : Int32)), (.int (2 : Int32)), .null]) ⟨rfl, _, _, rfl⟩ (rI4U_2 l Z a0 hw [] xs xa xk xz xu xv xc0 xc1 h0 Oh S_COMPACT_STRINGS hz S__assertionsDisabled S_HI_BYTE_SHIFT S_LO_BYTE_SHIFT og_xs E_xs F_value_xs F_coder_xs V_xa hr0 hr1 hU) (W := 0) (by decide) hml (Ls := #[rv xs, rv xa]) rfl (rest := []) rfl rfl hby d1_6
  obtain ⟨nb2, nk2, rfl, K2, E_xs, F_coder_xs, F_value_xs, gn_nb2, V_nb2⟩ := hQ
  have ge_nb2 := Nat.le_trans K.le gn_nb2
  have ne_xs_nb2 : xs ≠ nb2 := Nat.ne_of_lt (Nat.lt_of_lt_of_le lt_xs gn_nb2)
  have ne_xa_nb2 : xa ≠ nb2 := Nat.ne_of_lt (Nat.lt_of_lt_of_le lt_xa gn_nb2)
  have K := K.call K2 (allS (Or.inl (List.mem_of_getElem? (i := 0) rfl)) all0)
  refine oWk.to (mkF m 9 #[rv xs, rv xa] []) (fun _ kt => st _ kt) ?_
  exact oRetV X hx hlk hret (hb hby d1_9) (by rw [e0]; exact ⟨nb2, nk2, rfl, K, E_xs, F_coder_xs, F_value_xs, ge_nb2, V_nb2⟩) (by decide) (by decide)
def Q_rC5U_3_0 (Z : State) (xa xd : Addr) (xk xl : ClassId) (xc0 xc1 xc2 : Int32) (h0 : Heap) (v : Option Value) (h : Heap) (L : List Loc) : Prop := v = some (.int (0 : Int32)) ∧ oKp h0 h [xd] L
theorem rC5U_3_0 (l : Launch) (Z : State) (a0 : Array Value) (hw : oHW a0 Z) (ws : List Jvm.Cond) (xa xd : Addr) (xk xl : ClassId) (xc0 xc1 xc2 : Int32) (h0 : Heap) (O0 : Ext Z.heap h0) (og_xd : Z.heap.size ≤ xd) (ne_xa_xd : xa ≠ xd) (V_xa : Arv Z h0 xa xk .char (3 : Int32) [(.int xc0), (.int xc1), (.int xc2)] (.int (0 : Int32))) (V_xd : Arv Z h0 xd xl .byte (3 : Int32) [(.int (0 : Int32)), (.int (0 : Int32)), (.int (0 : Int32))] (.int (0 : Int32))) (hgt : (255 : Int32) < xc0) :
    oCon l Z yy5 jdk_52_method_21_code 7 (some .int) ws ({ frames := 0, cells := 0, slots := 0, locals := 0 } : Room) #[(.ref xa), (.int (0 : Int32)), (.ref xd), (.int (0 : Int32)), (.int (3 : Int32))] h0 (Q_rC5U_3_0 Z xa xd xk xl xc0 xc1 xc2 h0) := by
  refine oCon.of (plainFor_of_name pn_3) ?_
  intro p e s m below meth c T X hx hby hml hown hnm hret hlk hZ e0
  have hml : c.maxLocals = 7 := hml
  have K : oKp h0 h0 [xd] [] := oKp.nil _ _
  refine oWk.cast (g' := (mkF m 0 #[rv xa, iv 0, rv xd, iv 0, iv 3, uu, uu] [])) (by first | rfl | (simp [entryFrame, mkF, argsToLocals, Value.category]; done)) ?_
  refine oWk.to (mkF m 12 #[rv xa, iv 0, rv xd, iv 0, iv 3, iv 0, uu] [(.int 0), (.ref xa)]) (fun _ kt => zK X hx hby d8_0 rfl (zS X hx hby d8_1 rfl rfl (l' := #[rv xa, iv 0, rv xd, iv 0, iv 3, iv 0, uu]) rfl (zJ X hx hby d8_3 rfl rfl (zJ X hx hby d8_5 rfl rfl (zN X hx hby d8_7 rfl rfl (tlt (by decide)).2.1 (zA X hx hby d8_10 rfl rfl rfl (zI X hx hby d8_11 rfl rfl kt))))))) ?_
  refine oWk.to (mkF m 20 #[rv xa, iv 0, rv xd, iv 0, iv 3, iv 0, iv xc0] [(.int 255), (.int xc0)]) (fun _ kt => oLdC X hx hZ e0 V_xa (0 : Int32) (.int xc0) ⟨by decide, by decide⟩ rfl hby d8_12 rfl rfl (zS X hx hby d8_13 rfl rfl (l' := #[rv xa, iv 0, rv xd, iv 0, iv 3, iv 0, iv xc0]) rfl (zJ X hx hby d8_15 rfl rfl (zM X hx hby d8_17 rfl kt)))) ?_
  refine oWk.to (mkF m 25 #[rv xa, iv 0, rv xd, iv 0, iv 3, iv 0, iv xc0] [(.int 0)]) (fun _ kt => zN X hx hby d8_20 rfl rfl (tlt hgt).2.2.2 (zJ X hx hby d8_23 rfl rfl kt)) ?_
  exact oRetI X hx hlk hret (hb hby d8_25) (by rw [e0]; exact ⟨rfl, K⟩) (by decide) (by decide)
def Q_rC5U_3_1 (Z : State) (xa xd : Addr) (xk xl : ClassId) (xc0 xc1 xc2 : Int32) (h0 : Heap) (v : Option Value) (h : Heap) (L : List Loc) : Prop := v = some (.int (1 : Int32)) ∧ oKp h0 h [xd] L
theorem rC5U_3_1 (l : Launch) (Z : State) (a0 : Array Value) (hw : oHW a0 Z) (ws : List Jvm.Cond) (xa xd : Addr) (xk xl : ClassId) (xc0 xc1 xc2 : Int32) (h0 : Heap) (O0 : Ext Z.heap h0) (og_xd : Z.heap.size ≤ xd) (ne_xa_xd : xa ≠ xd) (V_xa : Arv Z h0 xa xk .char (3 : Int32) [(.int xc0), (.int xc1), (.int xc2)] (.int (0 : Int32))) (V_xd : Arv Z h0 xd xl .byte (3 : Int32) [(.int (0 : Int32)), (.int (0 : Int32)), (.int (0 : Int32))] (.int (0 : Int32))) (hle0 : ¬ (255 : Int32) < xc0) (hgt : (255 : Int32) < xc1) :
    oCon l Z yy5 jdk_52_method_21_code 7 (some .int) ws ({ frames := 0, cells := 0, slots := 0, locals := 0 } : Room) #[(.ref xa), (.int (0 : Int32)), (.ref xd), (.int (0 : Int32)), (.int (3 : Int32))] h0 (Q_rC5U_3_1 Z xa xd xk xl xc0 xc1 xc2 h0) := by
  refine oCon.of (plainFor_of_name pn_3) ?_
  intro p e s m below meth c T X hx hby hml hown hnm hret hlk hZ e0
  have hml : c.maxLocals = 7 := hml
  have K : oKp h0 h0 [xd] [] := oKp.nil _ _
  refine oWk.cast (g' := (mkF m 0 #[rv xa, iv 0, rv xd, iv 0, iv 3, uu, uu] [])) (by first | rfl | (simp [entryFrame, mkF, argsToLocals, Value.category]; done)) ?_
  refine oWk.to (mkF m 12 #[rv xa, iv 0, rv xd, iv 0, iv 3, iv 0, uu] [(.int 0), (.ref xa)]) (fun _ kt => zK X hx hby d8_0 rfl (zS X hx hby d8_1 rfl rfl (l' := #[rv xa, iv 0, rv xd, iv 0, iv 3, iv 0, uu]) rfl (zJ X hx hby d8_3 rfl rfl (zJ X hx hby d8_5 rfl rfl (zN X hx hby d8_7 rfl rfl (tlt (by decide)).2.1 (zA X hx hby d8_10 rfl rfl rfl (zI X hx hby d8_11 rfl rfl kt))))))) ?_
  refine oWk.to (mkF m 20 #[rv xa, iv 0, rv xd, iv 0, iv 3, iv 0, iv xc0] [(.int 255), (.int xc0)]) (fun _ kt => oLdC X hx hZ e0 V_xa (0 : Int32) (.int xc0) ⟨by decide, by decide⟩ rfl hby d8_12 rfl rfl (zS X hx hby d8_13 rfl rfl (l' := #[rv xa, iv 0, rv xd, iv 0, iv 3, iv 0, iv xc0]) rfl (zJ X hx hby d8_15 rfl rfl (zM X hx hby d8_17 rfl kt)))) ?_
  refine oWk.to (mkF m 31 #[rv xa, iv 0, rv xd, iv 0, iv 3, iv 0, iv xc0] [(ib xc0), (.int 0), (.ref xd)]) (fun _ kt => zY X hx hby d8_20 rfl rfl (flt hle0).2.2.2 (pc' := 26) rfl (zA X hx hby d8_26 rfl rfl rfl (zI X hx hby d8_27 rfl rfl (zJ X hx hby d8_28 rfl rfl (XS.i2b X.here hx rfl (hb hby d8_30) rfl kt))))) ?_
  obtain ⟨cl2, Ar2, q2, Sz2, Nn2, Hs2, Ft2⟩ := id V_xd
  have hin2 : ¬ ((0 : Int32) < 0 ∨ cl2.slots.size ≤ ((0 : Int32)).toNatClampNeg) := inb_of Sz2 ⟨by decide, by decide⟩
  obtain ⟨T, h, X, e0, W2, st⟩ := stB X hx hZ e0 Ar2 (j := (0 : Int32)) hin2 (g := (mkF m 31 #[rv xa, iv 0, rv xd, iv 0, iv 3, iv 0, iv xc0] [(ib xc0), (.int 0), (.ref xd)])) rfl rfl (hb hby d8_31)
  have K := K.wr W2 (Or.inl (List.mem_of_getElem? (i := 0) rfl))
  have V_xd := Arv.set Ar2 q2 Sz2 Nn2 Hs2 Ft2 (fits_nar_byte _) W2 0 rfl (Nat.le_of_ble_eq_true rfl)
  rw [oB8 xc0] at V_xd
  replace V_xd : Arv Z h xd xl .byte (3 : Int32) [(ib xc0), (.int (0 : Int32)), (.int (0 : Int32))] (.int (0 : Int32)) := V_xd
  refine oWk.to (mkF m 7 #[rv xa, iv 1, rv xd, iv 1, iv 3, iv 1, iv xc0] [(.int 3), (.int 1)]) (fun _ kt => st _ (zC X hx hby d8_32 rfl rfl (l' := #[rv xa, iv ((0 : Int32) + (1 : Int32)), rv xd, iv 0, iv 3, iv 0, iv xc0]) rfl (zC X hx hby d8_35 rfl rfl (l' := #[rv xa, iv 1, rv xd, iv ((0 : Int32) + (1 : Int32)), iv 3, iv 0, iv xc0]) rfl (zC X hx hby d8_38 rfl rfl (l' := #[rv xa, iv 1, rv xd, iv 1, iv 3, iv ((0 : Int32) + (1 : Int32)), iv xc0]) rfl (zG X hx hby d8_41 rfl (pc' := 3) rfl (zJ X hx hby d8_3 rfl rfl (zJ X hx hby d8_5 rfl rfl kt))))))) ?_
  refine oWk.st (fun _ kt => zN X hx hby d8_7 rfl rfl (tlt (by decide)).2.1 (zA X hx hby d8_10 rfl rfl rfl (zI X hx hby d8_11 rfl rfl kt))) ?_
  have V_xa := (V_xa.other W2 ne_xa_xd)
  refine oWk.to (mkF m 20 #[rv xa, iv 1, rv xd, iv 1, iv 3, iv 1, iv xc1] [(.int 255), (.int xc1)]) (fun _ kt => oLdC X hx hZ e0 V_xa (1 : Int32) (.int xc1) ⟨by decide, by decide⟩ rfl hby d8_12 rfl rfl (zS X hx hby d8_13 rfl rfl (l' := #[rv xa, iv 1, rv xd, iv 1, iv 3, iv 1, iv xc1]) rfl (zJ X hx hby d8_15 rfl rfl (zM X hx hby d8_17 rfl kt)))) ?_
  refine oWk.to (mkF m 25 #[rv xa, iv 1, rv xd, iv 1, iv 3, iv 1, iv xc1] [(.int 1)]) (fun _ kt => zN X hx hby d8_20 rfl rfl (tlt hgt).2.2.2 (zJ X hx hby d8_23 rfl rfl kt)) ?_
  exact oRetI X hx hlk hret (hb hby d8_25) (by rw [e0]; exact ⟨rfl, K⟩) (by decide) (by decide)
def Q_rC5U_3_2 (Z : State) (xa xd : Addr) (xk xl : ClassId) (xc0 xc1 xc2 : Int32) (h0 : Heap) (v : Option Value) (h : Heap) (L : List Loc) : Prop := v = some (.int (2 : Int32)) ∧ oKp h0 h [xd] L
theorem rC5U_3_2 (l : Launch) (Z : State) (a0 : Array Value) (hw : oHW a0 Z) (ws : List Jvm.Cond) (xa xd : Addr) (xk xl : ClassId) (xc0 xc1 xc2 : Int32) (h0 : Heap) (O0 : Ext Z.heap h0) (og_xd : Z.heap.size ≤ xd) (ne_xa_xd : xa ≠ xd) (V_xa : Arv Z h0 xa xk .char (3 : Int32) [(.int xc0), (.int xc1), (.int xc2)] (.int (0 : Int32))) (V_xd : Arv Z h0 xd xl .byte (3 : Int32) [(.int (0 : Int32)), (.int (0 : Int32)), (.int (0 : Int32))] (.int (0 : Int32))) (hle0 : ¬ (255 : Int32) < xc0) (hle1 : ¬ (255 : Int32) < xc1) (hgt : (255 : Int32) < xc2) :
    oCon l Z yy5 jdk_52_method_21_code 7 (some .int) ws ({ frames := 0, cells := 0, slots := 0, locals := 0 } : Room) #[(.ref xa), (.int (0 : Int32)), (.ref xd), (.int (0 : Int32)), (.int (3 : Int32))] h0 (Q_rC5U_3_2 Z xa xd xk xl xc0 xc1 xc2 h0) := by
  refine oCon.of (plainFor_of_name pn_3) ?_
  intro p e s m below meth c T X hx hby hml hown hnm hret hlk hZ e0
  have hml : c.maxLocals = 7 := hml
  have K : oKp h0 h0 [xd] [] := oKp.nil _ _
  refine oWk.cast (g' := (mkF m 0 #[rv xa, iv 0, rv xd, iv 0, iv 3, uu, uu] [])) (by first | rfl | (simp [entryFrame, mkF, argsToLocals, Value.category]; done)) ?_
  refine oWk.to (mkF m 12 #[rv xa, iv 0, rv xd, iv 0, iv 3, iv 0, uu] [(.int 0), (.ref xa)]) (fun _ kt => zK X hx hby d8_0 rfl (zS X hx hby d8_1 rfl rfl (l' := #[rv xa, iv 0, rv xd, iv 0, iv 3, iv 0, uu]) rfl (zJ X hx hby d8_3 rfl rfl (zJ X hx hby d8_5 rfl rfl (zN X hx hby d8_7 rfl rfl (tlt (by decide)).2.1 (zA X hx hby d8_10 rfl rfl rfl (zI X hx hby d8_11 rfl rfl kt))))))) ?_
  refine oWk.to (mkF m 20 #[rv xa, iv 0, rv xd, iv 0, iv 3, iv 0, iv xc0] [(.int 255), (.int xc0)]) (fun _ kt => oLdC X hx hZ e0 V_xa (0 : Int32) (.int xc0) ⟨by decide, by decide⟩ rfl hby d8_12 rfl rfl (zS X hx hby d8_13 rfl rfl (l' := #[rv xa, iv 0, rv xd, iv 0, iv 3, iv 0, iv xc0]) rfl (zJ X hx hby d8_15 rfl rfl (zM X hx hby d8_17 rfl kt)))) ?_
  refine oWk.to (mkF m 31 #[rv xa, iv 0, rv xd, iv 0, iv 3, iv 0, iv xc0] [(ib xc0), (.int 0), (.ref xd)]) (fun _ kt => zY X hx hby d8_20 rfl rfl (flt hle0).2.2.2 (pc' := 26) rfl (zA X hx hby d8_26 rfl rfl rfl (zI X hx hby d8_27 rfl rfl (zJ X hx hby d8_28 rfl rfl (XS.i2b X.here hx rfl (hb hby d8_30) rfl kt))))) ?_
  obtain ⟨cl2, Ar2, q2, Sz2, Nn2, Hs2, Ft2⟩ := id V_xd
  have hin2 : ¬ ((0 : Int32) < 0 ∨ cl2.slots.size ≤ ((0 : Int32)).toNatClampNeg) := inb_of Sz2 ⟨by decide, by decide⟩
  obtain ⟨T, h, X, e0, W2, st⟩ := stB X hx hZ e0 Ar2 (j := (0 : Int32)) hin2 (g := (mkF m 31 #[rv xa, iv 0, rv xd, iv 0, iv 3, iv 0, iv xc0] [(ib xc0), (.int 0), (.ref xd)])) rfl rfl (hb hby d8_31)
  have K := K.wr W2 (Or.inl (List.mem_of_getElem? (i := 0) rfl))
  have V_xd := Arv.set Ar2 q2 Sz2 Nn2 Hs2 Ft2 (fits_nar_byte _) W2 0 rfl (Nat.le_of_ble_eq_true rfl)
  rw [oB8 xc0] at V_xd
  replace V_xd : Arv Z h xd xl .byte (3 : Int32) [(ib xc0), (.int (0 : Int32)), (.int (0 : Int32))] (.int (0 : Int32)) := V_xd
  refine oWk.to (mkF m 7 #[rv xa, iv 1, rv xd, iv 1, iv 3, iv 1, iv xc0] [(.int 3), (.int 1)]) (fun _ kt => st _ (zC X hx hby d8_32 rfl rfl (l' := #[rv xa, iv ((0 : Int32) + (1 : Int32)), rv xd, iv 0, iv 3, iv 0, iv xc0]) rfl (zC X hx hby d8_35 rfl rfl (l' := #[rv xa, iv 1, rv xd, iv ((0 : Int32) + (1 : Int32)), iv 3, iv 0, iv xc0]) rfl (zC X hx hby d8_38 rfl rfl (l' := #[rv xa, iv 1, rv xd, iv 1, iv 3, iv ((0 : Int32) + (1 : Int32)), iv xc0]) rfl (zG X hx hby d8_41 rfl (pc' := 3) rfl (zJ X hx hby d8_3 rfl rfl (zJ X hx hby d8_5 rfl rfl kt))))))) ?_
  refine oWk.st (fun _ kt => zN X hx hby d8_7 rfl rfl (tlt (by decide)).2.1 (zA X hx hby d8_10 rfl rfl rfl (zI X hx hby d8_11 rfl rfl kt))) ?_
  have V_xa := (V_xa.other W2 ne_xa_xd)
  refine oWk.to (mkF m 20 #[rv xa, iv 1, rv xd, iv 1, iv 3, iv 1, iv xc1] [(.int 255), (.int xc1)]) (fun _ kt => oLdC X hx hZ e0 V_xa (1 : Int32) (.int xc1) ⟨by decide, by decide⟩ rfl hby d8_12 rfl rfl (zS X hx hby d8_13 rfl rfl (l' := #[rv xa, iv 1, rv xd, iv 1, iv 3, iv 1, iv xc1]) rfl (zJ X hx hby d8_15 rfl rfl (zM X hx hby d8_17 rfl kt)))) ?_
  refine oWk.to (mkF m 31 #[rv xa, iv 1, rv xd, iv 1, iv 3, iv 1, iv xc1] [(ib xc1), (.int 1), (.ref xd)]) (fun _ kt => zY X hx hby d8_20 rfl rfl (flt hle1).2.2.2 (pc' := 26) rfl (zA X hx hby d8_26 rfl rfl rfl (zI X hx hby d8_27 rfl rfl (zJ X hx hby d8_28 rfl rfl (XS.i2b X.here hx rfl (hb hby d8_30) rfl kt))))) ?_
  obtain ⟨cl4, Ar4, q4, Sz4, Nn4, Hs4, Ft4⟩ := id V_xd
  have hin4 : ¬ ((1 : Int32) < 0 ∨ cl4.slots.size ≤ ((1 : Int32)).toNatClampNeg) := inb_of Sz4 ⟨by decide, by decide⟩
  obtain ⟨T, h, X, e0, W4, st⟩ := stB X hx hZ e0 Ar4 (j := (1 : Int32)) hin4 (g := (mkF m 31 #[rv xa, iv 1, rv xd, iv 1, iv 3, iv 1, iv xc1] [(ib xc1), (.int 1), (.ref xd)])) rfl rfl (hb hby d8_31)
  have K := K.wr W4 (Or.inl (List.mem_of_getElem? (i := 0) rfl))
  have V_xd := Arv.set Ar4 q4 Sz4 Nn4 Hs4 Ft4 (fits_nar_byte _) W4 1 rfl (Nat.le_of_ble_eq_true rfl)
  rw [oB8 xc1] at V_xd
  replace V_xd : Arv Z h xd xl .byte (3 : Int32) [(ib xc0), (ib xc1), (.int (0 : Int32))] (.int (0 : Int32)) := V_xd
  refine oWk.to (mkF m 7 #[rv xa, iv 2, rv xd, iv 2, iv 3, iv 2, iv xc1] [(.int 3), (.int 2)]) (fun _ kt => st _ (zC X hx hby d8_32 rfl rfl (l' := #[rv xa, iv ((1 : Int32) + (1 : Int32)), rv xd, iv 1, iv 3, iv 1, iv xc1]) rfl (zC X hx hby d8_35 rfl rfl (l' := #[rv xa, iv 2, rv xd, iv ((1 : Int32) + (1 : Int32)), iv 3, iv 1, iv xc1]) rfl (zC X hx hby d8_38 rfl rfl (l' := #[rv xa, iv 2, rv xd, iv 2, iv 3, iv ((1 : Int32) + (1 : Int32)), iv xc1]) rfl (zG X hx hby d8_41 rfl (pc' := 3) rfl (zJ X hx hby d8_3 rfl rfl (zJ X hx hby d8_5 rfl rfl kt))))))) ?_
  refine oWk.st (fun _ kt => zN X hx hby d8_7 rfl rfl (tlt (by decide)).2.1 (zA X hx hby d8_10 rfl rfl rfl (zI X hx hby d8_11 rfl rfl kt))) ?_
  have V_xa := (V_xa.other W4 ne_xa_xd)
  refine oWk.to (mkF m 20 #[rv xa, iv 2, rv xd, iv 2, iv 3, iv 2, iv xc2] [(.int 255), (.int xc2)]) (fun _ kt => oLdC X hx hZ e0 V_xa (2 : Int32) (.int xc2) ⟨by decide, by decide⟩ rfl hby d8_12 rfl rfl (zS X hx hby d8_13 rfl rfl (l' := #[rv xa, iv 2, rv xd, iv 2, iv 3, iv 2, iv xc2]) rfl (zJ X hx hby d8_15 rfl rfl (zM X hx hby d8_17 rfl kt)))) ?_
  refine oWk.to (mkF m 25 #[rv xa, iv 2, rv xd, iv 2, iv 3, iv 2, iv xc2] [(.int 2)]) (fun _ kt => zN X hx hby d8_20 rfl rfl (tlt hgt).2.2.2 (zJ X hx hby d8_23 rfl rfl kt)) ?_
  exact oRetI X hx hlk hret (hb hby d8_25) (by rw [e0]; exact ⟨rfl, K⟩) (by decide) (by decide)
def Q_rNBL_3 (Z : State)  (h0 : Heap) (v : Option Value) (h : Heap) (L : List Loc) : Prop := v = some (.int (6 : Int32)) ∧ h = h0 ∧ oKp h0 h [] L
theorem rNBL_3 (l : Launch) (Z : State) (a0 : Array Value) (hw : oHW a0 Z) (ws : List Jvm.Cond)  (h0 : Heap) (O0 : Ext Z.heap h0)  :
    oCon l Z yy8 jdk_52_method_3_code 1 (some .int) ws ({ frames := 0, cells := 0, slots := 0, locals := 0 } : Room) #[(.int (3 : Int32))] h0 (Q_rNBL_3 Z  h0) := by
  refine oCon.of (plainFor_of_name pn_3) ?_
  intro p e s m below meth c T X hx hby hml hown hnm hret hlk hZ e0
  have hml : c.maxLocals = 1 := hml
  have K : oKp h0 h0 [] [] := oKp.nil _ _
  refine oWk.cast (g' := (mkF m 0 #[iv 3] [])) (by first | rfl | (simp [entryFrame, mkF, argsToLocals, Value.category]; done)) ?_
  refine oWk.st (fun _ kt => zI X hx hby d21_0 rfl rfl (zF X hx hby d21_1 rfl rfl ((if0 _ _).trans (flt (by decide)).2.1) (pc' := 12) rfl (zI X hx hby d21_12 rfl rfl kt))) ?_
  refine oWk.to (mkF m 58 #[iv 3] [(.int 6)]) (fun _ kt => X.ldcI hx hown (mvT hZ (oW hw 96 rfl)) rfl (hb hby d21_13) (zY X hx hby d21_15 rfl rfl (tlt (by decide)).1 (pc' := 55) rfl (zI X hx hby d21_55 rfl rfl (zK X hx hby d21_56 rfl (XS.ishl X.here hx rfl (hb hby d21_57) rfl kt))))) ?_
  exact oRetI X hx hlk hret (hb hby d21_58) (by rw [e0]; exact ⟨rfl, rfl, K⟩) (by decide) (by decide)
def Q_rNBF_3 (Z : State)  (h0 : Heap) (v : Option Value) (h : Heap) (L : List Loc) : Prop := ∃ (nb : Addr) (nk : ClassId), v = some (.ref nb) ∧ oKp h0 h [] L ∧ (h0.size ≤ nb) ∧ (Arv Z h nb nk .byte (6 : Int32) [(.int (0 : Int32)), (.int (0 : Int32)), (.int (0 : Int32)), (.int (0 : Int32)), (.int (0 : Int32)), (.int (0 : Int32))] (.int (0 : Int32)))
theorem rNBF_3 (l : Launch) (Z : State) (a0 : Array Value) (hw : oHW a0 Z) (ws : List Jvm.Cond)  (h0 : Heap) (O0 : Ext Z.heap h0)  :
    oCon l Z yy9 jdk_52_method_2_code 1 (some (.array .byte)) ws ({ frames := 1, cells := 1, slots := 6, locals := 12 } : Room) #[(.int (3 : Int32))] h0 (Q_rNBF_3 Z  h0) := by
  refine oCon.of (plainFor_of_name pn_3) ?_
  intro p e s m below meth c T X hx hby hml hown hnm hret hlk hZ e0
  have hml : c.maxLocals = 1 := hml
  have K : oKp h0 h0 [] [] := oKp.nil _ _
  refine oWk.cast (g' := (mkF m 0 #[iv 3] [])) (by first | rfl | (simp [entryFrame, mkF, argsToLocals, Value.category]; done)) ?_
  refine oWk.st (fun _ kt => zI X hx hby d20_0 rfl rfl kt) ?_
  have Oh := K.old O0 all0
  obtain ⟨T, L2, X, e0, K, st⟩ := (cs5 hw).pure X hx hZ hown e0 K (A := [(.int (3 : Int32))]) rfl (rNBL_3 l Z a0 hw []  h0 Oh ) (fun _ _ _ q => q) (W := 0) (by decide) hml (Ls := #[iv 3]) rfl (rest := []) rfl rfl hby d20_1
  refine oWk.st (fun _ kt => st _ kt) ?_
  obtain ⟨o3, g3⟩ : ∃ z, z = h0.size := ⟨_, rfl⟩
  have ge_o3 : h0.size ≤ o3 := Nat.le_trans K.le (Nat.le_of_eq g3.symm)
  obtain ⟨T, h, k3, X, e0, E3, A3, st⟩ := newP X hx hZ (oW hw 17 rfl) e0 (g := (mkF m 4 #[iv 3] [(.int 6)])) rfl (hb hby d20_4) rfl (by decide) (cap := 6) (by decide) (by decide) (by decide) (by decide)
  rw [← g3] at A3 st
  have K := K.ext E3
  have V_o3 : Arv Z h o3 k3 .byte (6 : Int32) [(.int (0 : Int32)), (.int (0 : Int32)), (.int (0 : Int32)), (.int (0 : Int32)), (.int (0 : Int32)), (.int (0 : Int32))] (.int (0 : Int32)) := (Arv.new A3 (by decide)).pad (pad_rep [] (.int (0 : Int32)) 6)
  refine oWk.to (mkF m 6 #[iv 3] [(.ref o3)]) (fun _ kt => st _ kt) ?_
  exact oRetA X hx hlk hret rfl rfl (hb hby d20_6) (by rw [e0]; exact ⟨o3, k3, rfl, K, ge_o3, V_o3⟩) (by decide) (by decide)
def Q_rPut_3_0 (Z : State) (xb : Addr) (xk : ClassId) (xp xy0 xy1 xy2 xy3 xy4 xy5 : Int32) (h0 : Heap) (v : Option Value) (h : Heap) (L : List Loc) : Prop := v = none ∧ oKp h0 h [xb] L ∧ (Arv Z h xb xk .byte (6 : Int32) [(iu0 xp), (iu8 xp), (.int xy2), (.int xy3), (.int xy4), (.int xy5)] (.int (0 : Int32)))
theorem rPut_3_0 (l : Launch) (Z : State) (a0 : Array Value) (hw : oHW a0 Z) (ws : List Jvm.Cond) (xb : Addr) (xk : ClassId) (xp xy0 xy1 xy2 xy3 xy4 xy5 : Int32) (h0 : Heap) (O0 : Ext Z.heap h0) (S__assertionsDisabled : Sta Z Z.heap Y1 Y3 "Z" (.int (1 : Int32))) (S_HI_BYTE_SHIFT : Sta Z Z.heap Y1 "HI_BYTE_SHIFT" "I" (.int (0 : Int32))) (S_LO_BYTE_SHIFT : Sta Z Z.heap Y1 "LO_BYTE_SHIFT" "I" (.int (8 : Int32))) (og_xb : Z.heap.size ≤ xb) (V_xb : Arv Z h0 xb xk .byte (6 : Int32) [(.int xy0), (.int xy1), (.int xy2), (.int xy3), (.int xy4), (.int xy5)] (.int (0 : Int32))) :
    oCon l Z yy10 jdk_52_method_4_code 3 none ws ({ frames := 0, cells := 0, slots := 0, locals := 0 } : Room) #[(.ref xb), (.int (0 : Int32)), (.int xp)] h0 (Q_rPut_3_0 Z xb xk xp xy0 xy1 xy2 xy3 xy4 xy5 h0) := by
  refine oCon.of (plainFor_of_name pn_3) ?_
  intro p e s m below meth c T X hx hby hml hown hnm hret hlk hZ e0
  have hml : c.maxLocals = 3 := hml
  have K : oKp h0 h0 [xb] [] := oKp.nil _ _
  refine oWk.cast (g' := (mkF m 0 #[rv xb, iv 0, iv xp] [])) (by first | rfl | (simp [entryFrame, mkF, argsToLocals, Value.category]; done)) ?_
  have Oh := K.old O0 (allS og_xb all0)
  obtain ⟨T, X, e0, st⟩ := getS2 X hx hZ hown (host := "") (Or.inl (oW hw 100 rfl)) Via.refl e0 (S__assertionsDisabled.ext Oh) (g := (mkF m 0 #[rv xb, iv 0, iv xp] [])) rfl (hb hby d22_0)
  refine oWk.to (mkF m 33 #[rv xb, iv 0, iv xp] [(.ref xb)]) (fun _ kt => st _ (zF X hx hby d22_3 rfl rfl ((if0 _ _).trans (feq (by decide)).2) (pc' := 28) rfl (zI X hx hby d22_28 rfl rfl (zK X hx hby d22_29 rfl (XS.ishl X.here hx rfl (hb hby d22_30) rfl (zSn X hx hby d22_31 rfl rfl (l' := #[rv xb, iv 0, iv xp]) rfl (zA X hx hby d22_32 rfl rfl rfl kt))))))) ?_
  refine oWk.st (fun _ kt => zI X hx hby d22_33 rfl rfl (zC X hx hby d22_34 rfl rfl (l' := #[rv xb, iv ((0 : Int32) + (1 : Int32)), iv xp]) rfl (zI X hx hby d22_37 rfl rfl kt))) ?_
  obtain ⟨T, X, e0, st⟩ := getS2 X hx hZ hown (host := "") (Or.inl (oW hw 101 rfl)) Via.refl e0 (S_HI_BYTE_SHIFT.ext Oh) (g := (mkF m 38 #[rv xb, iv 1, iv xp] [(.int xp), (.int 0), (.ref xb)])) rfl (hb hby d22_38)
  refine oWk.st (fun _ kt => st _ (XS.ishr X.here hx rfl (hb hby d22_41) rfl (XS.i2b X.here hx rfl (hb hby d22_42) rfl kt))) ?_
  obtain ⟨cl1, Ar1, q1, Sz1, Nn1, Hs1, Ft1⟩ := id V_xb
  have hin1 : ¬ ((0 : Int32) < 0 ∨ cl1.slots.size ≤ ((0 : Int32)).toNatClampNeg) := inb_of Sz1 ⟨by decide, by decide⟩
  obtain ⟨T, h, X, e0, W1, st⟩ := stB X hx hZ e0 Ar1 (j := (0 : Int32)) hin1 (g := (mkF m 43 #[rv xb, iv 1, iv xp] [(iu0 xp), (.int 0), (.ref xb)])) rfl rfl (hb hby d22_43)
  have K := K.wr W1 (Or.inl (List.mem_of_getElem? (i := 0) rfl))
  have V_xb := Arv.set Ar1 q1 Sz1 Nn1 Hs1 Ft1 (fits_nar_byte _) W1 0 rfl (Nat.le_of_ble_eq_true rfl)
  rw [oB8 (xp >>> ((0 : Int32) &&& 31))] at V_xb
  replace V_xb : Arv Z h xb xk .byte (6 : Int32) [(iu0 xp), (.int xy1), (.int xy2), (.int xy3), (.int xy4), (.int xy5)] (.int (0 : Int32)) := V_xb
  refine oWk.st (fun _ kt => st _ (zA X hx hby d22_44 rfl rfl rfl (zI X hx hby d22_45 rfl rfl (zI X hx hby d22_46 rfl rfl kt)))) ?_
  have Oh := K.old O0 (allS og_xb all0)
  obtain ⟨T, X, e0, st⟩ := getS2 X hx hZ hown (host := "") (Or.inl (oW hw 102 rfl)) Via.refl e0 (S_LO_BYTE_SHIFT.ext Oh) (g := (mkF m 47 #[rv xb, iv 1, iv xp] [(.int xp), (.int 1), (.ref xb)])) rfl (hb hby d22_47)
  refine oWk.st (fun _ kt => st _ (XS.ishr X.here hx rfl (hb hby d22_50) rfl (XS.i2b X.here hx rfl (hb hby d22_51) rfl kt))) ?_
  obtain ⟨cl2, Ar2, q2, Sz2, Nn2, Hs2, Ft2⟩ := id V_xb
  have hin2 : ¬ ((1 : Int32) < 0 ∨ cl2.slots.size ≤ ((1 : Int32)).toNatClampNeg) := inb_of Sz2 ⟨by decide, by decide⟩
  obtain ⟨T, h, X, e0, W2, st⟩ := stB X hx hZ e0 Ar2 (j := (1 : Int32)) hin2 (g := (mkF m 52 #[rv xb, iv 1, iv xp] [(iu8 xp), (.int 1), (.ref xb)])) rfl rfl (hb hby d22_52)
  have K := K.wr W2 (Or.inl (List.mem_of_getElem? (i := 0) rfl))
  have V_xb := Arv.set Ar2 q2 Sz2 Nn2 Hs2 Ft2 (fits_nar_byte _) W2 1 rfl (Nat.le_of_ble_eq_true rfl)
  rw [oB8 (xp >>> ((8 : Int32) &&& 31))] at V_xb
  replace V_xb : Arv Z h xb xk .byte (6 : Int32) [(iu0 xp), (iu8 xp), (.int xy2), (.int xy3), (.int xy4), (.int xy5)] (.int (0 : Int32)) := V_xb
  refine oWk.to (mkF m 53 #[rv xb, iv 1, iv xp] []) (fun _ kt => st _ kt) ?_
  exact oRetV X hx hlk hret (hb hby d22_53) (by rw [e0]; exact ⟨rfl, K, V_xb⟩) (by decide) (by decide)
def Q_rPut_3_1 (Z : State) (xb : Addr) (xk : ClassId) (xp xy0 xy1 xy2 xy3 xy4 xy5 : Int32) (h0 : Heap) (v : Option Value) (h : Heap) (L : List Loc) : Prop := v = none ∧ oKp h0 h [xb] L ∧ (Arv Z h xb xk .byte (6 : Int32) [(.int xy0), (.int xy1), (iu0 xp), (iu8 xp), (.int xy4), (.int xy5)] (.int (0 : Int32)))
theorem rPut_3_1 (l : Launch) (Z : State) (a0 : Array Value) (hw : oHW a0 Z) (ws : List Jvm.Cond) (xb : Addr) (xk : ClassId) (xp xy0 xy1 xy2 xy3 xy4 xy5 : Int32) (h0 : Heap) (O0 : Ext Z.heap h0) (S__assertionsDisabled : Sta Z Z.heap Y1 Y3 "Z" (.int (1 : Int32))) (S_HI_BYTE_SHIFT : Sta Z Z.heap Y1 "HI_BYTE_SHIFT" "I" (.int (0 : Int32))) (S_LO_BYTE_SHIFT : Sta Z Z.heap Y1 "LO_BYTE_SHIFT" "I" (.int (8 : Int32))) (og_xb : Z.heap.size ≤ xb) (V_xb : Arv Z h0 xb xk .byte (6 : Int32) [(.int xy0), (.int xy1), (.int xy2), (.int xy3), (.int xy4), (.int xy5)] (.int (0 : Int32))) :
    oCon l Z yy10 jdk_52_method_4_code 3 none ws ({ frames := 0, cells := 0, slots := 0, locals := 0 } : Room) #[(.ref xb), (.int (1 : Int32)), (.int xp)] h0 (Q_rPut_3_1 Z xb xk xp xy0 xy1 xy2 xy3 xy4 xy5 h0) := by
  refine oCon.of (plainFor_of_name pn_3) ?_
  intro p e s m below meth c T X hx hby hml hown hnm hret hlk hZ e0
  have hml : c.maxLocals = 3 := hml
  have K : oKp h0 h0 [xb] [] := oKp.nil _ _
  refine oWk.cast (g' := (mkF m 0 #[rv xb, iv 1, iv xp] [])) (by first | rfl | (simp [entryFrame, mkF, argsToLocals, Value.category]; done)) ?_
  have Oh := K.old O0 (allS og_xb all0)
  obtain ⟨T, X, e0, st⟩ := getS2 X hx hZ hown (host := "") (Or.inl (oW hw 100 rfl)) Via.refl e0 (S__assertionsDisabled.ext Oh) (g := (mkF m 0 #[rv xb, iv 1, iv xp] [])) rfl (hb hby d22_0)
  refine oWk.to (mkF m 33 #[rv xb, iv 2, iv xp] [(.ref xb)]) (fun _ kt => st _ (zF X hx hby d22_3 rfl rfl ((if0 _ _).trans (feq (by decide)).2) (pc' := 28) rfl (zI X hx hby d22_28 rfl rfl (zK X hx hby d22_29 rfl (XS.ishl X.here hx rfl (hb hby d22_30) rfl (zSn X hx hby d22_31 rfl rfl (l' := #[rv xb, iv 2, iv xp]) rfl (zA X hx hby d22_32 rfl rfl rfl kt))))))) ?_
  refine oWk.st (fun _ kt => zI X hx hby d22_33 rfl rfl (zC X hx hby d22_34 rfl rfl (l' := #[rv xb, iv ((2 : Int32) + (1 : Int32)), iv xp]) rfl (zI X hx hby d22_37 rfl rfl kt))) ?_
  obtain ⟨T, X, e0, st⟩ := getS2 X hx hZ hown (host := "") (Or.inl (oW hw 101 rfl)) Via.refl e0 (S_HI_BYTE_SHIFT.ext Oh) (g := (mkF m 38 #[rv xb, iv 3, iv xp] [(.int xp), (.int 2), (.ref xb)])) rfl (hb hby d22_38)
  refine oWk.st (fun _ kt => st _ (XS.ishr X.here hx rfl (hb hby d22_41) rfl (XS.i2b X.here hx rfl (hb hby d22_42) rfl kt))) ?_
  obtain ⟨cl1, Ar1, q1, Sz1, Nn1, Hs1, Ft1⟩ := id V_xb
  have hin1 : ¬ ((2 : Int32) < 0 ∨ cl1.slots.size ≤ ((2 : Int32)).toNatClampNeg) := inb_of Sz1 ⟨by decide, by decide⟩
  obtain ⟨T, h, X, e0, W1, st⟩ := stB X hx hZ e0 Ar1 (j := (2 : Int32)) hin1 (g := (mkF m 43 #[rv xb, iv 3, iv xp] [(iu0 xp), (.int 2), (.ref xb)])) rfl rfl (hb hby d22_43)
  have K := K.wr W1 (Or.inl (List.mem_of_getElem? (i := 0) rfl))
  have V_xb := Arv.set Ar1 q1 Sz1 Nn1 Hs1 Ft1 (fits_nar_byte _) W1 2 rfl (Nat.le_of_ble_eq_true rfl)
  rw [oB8 (xp >>> ((0 : Int32) &&& 31))] at V_xb
  replace V_xb : Arv Z h xb xk .byte (6 : Int32) [(.int xy0), (.int xy1), (iu0 xp), (.int xy3), (.int xy4), (.int xy5)] (.int (0 : Int32)) := V_xb
  refine oWk.st (fun _ kt => st _ (zA X hx hby d22_44 rfl rfl rfl (zI X hx hby d22_45 rfl rfl (zI X hx hby d22_46 rfl rfl kt)))) ?_
  have Oh := K.old O0 (allS og_xb all0)
  obtain ⟨T, X, e0, st⟩ := getS2 X hx hZ hown (host := "") (Or.inl (oW hw 102 rfl)) Via.refl e0 (S_LO_BYTE_SHIFT.ext Oh) (g := (mkF m 47 #[rv xb, iv 3, iv xp] [(.int xp), (.int 3), (.ref xb)])) rfl (hb hby d22_47)
  refine oWk.st (fun _ kt => st _ (XS.ishr X.here hx rfl (hb hby d22_50) rfl (XS.i2b X.here hx rfl (hb hby d22_51) rfl kt))) ?_
  obtain ⟨cl2, Ar2, q2, Sz2, Nn2, Hs2, Ft2⟩ := id V_xb
  have hin2 : ¬ ((3 : Int32) < 0 ∨ cl2.slots.size ≤ ((3 : Int32)).toNatClampNeg) := inb_of Sz2 ⟨by decide, by decide⟩
  obtain ⟨T, h, X, e0, W2, st⟩ := stB X hx hZ e0 Ar2 (j := (3 : Int32)) hin2 (g := (mkF m 52 #[rv xb, iv 3, iv xp] [(iu8 xp), (.int 3), (.ref xb)])) rfl rfl (hb hby d22_52)
  have K := K.wr W2 (Or.inl (List.mem_of_getElem? (i := 0) rfl))
  have V_xb := Arv.set Ar2 q2 Sz2 Nn2 Hs2 Ft2 (fits_nar_byte _) W2 3 rfl (Nat.le_of_ble_eq_true rfl)
  rw [oB8 (xp >>> ((8 : Int32) &&& 31))] at V_xb
  replace V_xb : Arv Z h xb xk .byte (6 : Int32) [(.int xy0), (.int xy1), (iu0 xp), (iu8 xp), (.int xy4), (.int xy5)] (.int (0 : Int32)) := V_xb
  refine oWk.to (mkF m 53 #[rv xb, iv 3, iv xp] []) (fun _ kt => st _ kt) ?_
  exact oRetV X hx hlk hret (hb hby d22_53) (by rw [e0]; exact ⟨rfl, K, V_xb⟩) (by decide) (by decide)
def Q_rPut_3_2 (Z : State) (xb : Addr) (xk : ClassId) (xp xy0 xy1 xy2 xy3 xy4 xy5 : Int32) (h0 : Heap) (v : Option Value) (h : Heap) (L : List Loc) : Prop := v = none ∧ oKp h0 h [xb] L ∧ (Arv Z h xb xk .byte (6 : Int32) [(.int xy0), (.int xy1), (.int xy2), (.int xy3), (iu0 xp), (iu8 xp)] (.int (0 : Int32)))
theorem rPut_3_2 (l : Launch) (Z : State) (a0 : Array Value) (hw : oHW a0 Z) (ws : List Jvm.Cond) (xb : Addr) (xk : ClassId) (xp xy0 xy1 xy2 xy3 xy4 xy5 : Int32) (h0 : Heap) (O0 : Ext Z.heap h0) (S__assertionsDisabled : Sta Z Z.heap Y1 Y3 "Z" (.int (1 : Int32))) (S_HI_BYTE_SHIFT : Sta Z Z.heap Y1 "HI_BYTE_SHIFT" "I" (.int (0 : Int32))) (S_LO_BYTE_SHIFT : Sta Z Z.heap Y1 "LO_BYTE_SHIFT" "I" (.int (8 : Int32))) (og_xb : Z.heap.size ≤ xb) (V_xb : Arv Z h0 xb xk .byte (6 : Int32) [(.int xy0), (.int xy1), (.int xy2), (.int xy3), (.int xy4), (.int xy5)] (.int (0 : Int32))) :
    oCon l Z yy10 jdk_52_method_4_code 3 none ws ({ frames := 0, cells := 0, slots := 0, locals := 0 } : Room) #[(.ref xb), (.int (2 : Int32)), (.int xp)] h0 (Q_rPut_3_2 Z xb xk xp xy0 xy1 xy2 xy3 xy4 xy5 h0) := by
  refine oCon.of (plainFor_of_name pn_3) ?_
  intro p e s m below meth c T X hx hby hml hown hnm hret hlk hZ e0
  have hml : c.maxLocals = 3 := hml
  have K : oKp h0 h0 [xb] [] := oKp.nil _ _
  refine oWk.cast (g' := (mkF m 0 #[rv xb, iv 2, iv xp] [])) (by first | rfl | (simp [entryFrame, mkF, argsToLocals, Value.category]; done)) ?_
  have Oh := K.old O0 (allS og_xb all0)
  obtain ⟨T, X, e0, st⟩ := getS2 X hx hZ hown (host := "") (Or.inl (oW hw 100 rfl)) Via.refl e0 (S__assertionsDisabled.ext Oh) (g := (mkF m 0 #[rv xb, iv 2, iv xp] [])) rfl (hb hby d22_0)
  refine oWk.to (mkF m 33 #[rv xb, iv 4, iv xp] [(.ref xb)]) (fun _ kt => st _ (zF X hx hby d22_3 rfl rfl ((if0 _ _).trans (feq (by decide)).2) (pc' := 28) rfl (zI X hx hby d22_28 rfl rfl (zK X hx hby d22_29 rfl (XS.ishl X.here hx rfl (hb hby d22_30) rfl (zSn X hx hby d22_31 rfl rfl (l' := #[rv xb, iv 4, iv xp]) rfl (zA X hx hby d22_32 rfl rfl rfl kt))))))) ?_
  refine oWk.st (fun _ kt => zI X hx hby d22_33 rfl rfl (zC X hx hby d22_34 rfl rfl (l' := #[rv xb, iv ((4 : Int32) + (1 : Int32)), iv xp]) rfl (zI X hx hby d22_37 rfl rfl kt))) ?_
  obtain ⟨T, X, e0, st⟩ := getS2 X hx hZ hown (host := "") (Or.inl (oW hw 101 rfl)) Via.refl e0 (S_HI_BYTE_SHIFT.ext Oh) (g := (mkF m 38 #[rv xb, iv 5, iv xp] [(.int xp), (.int 4), (.ref xb)])) rfl (hb hby d22_38)
  refine oWk.st (fun _ kt => st _ (XS.ishr X.here hx rfl (hb hby d22_41) rfl (XS.i2b X.here hx rfl (hb hby d22_42) rfl kt))) ?_
  obtain ⟨cl1, Ar1, q1, Sz1, Nn1, Hs1, Ft1⟩ := id V_xb
  have hin1 : ¬ ((4 : Int32) < 0 ∨ cl1.slots.size ≤ ((4 : Int32)).toNatClampNeg) := inb_of Sz1 ⟨by decide, by decide⟩
  obtain ⟨T, h, X, e0, W1, st⟩ := stB X hx hZ e0 Ar1 (j := (4 : Int32)) hin1 (g := (mkF m 43 #[rv xb, iv 5, iv xp] [(iu0 xp), (.int 4), (.ref xb)])) rfl rfl (hb hby d22_43)
  have K := K.wr W1 (Or.inl (List.mem_of_getElem? (i := 0) rfl))
  have V_xb := Arv.set Ar1 q1 Sz1 Nn1 Hs1 Ft1 (fits_nar_byte _) W1 4 rfl (Nat.le_of_ble_eq_true rfl)
  rw [oB8 (xp >>> ((0 : Int32) &&& 31))] at V_xb
  replace V_xb : Arv Z h xb xk .byte (6 : Int32) [(.int xy0), (.int xy1), (.int xy2), (.int xy3), (iu0 xp), (.int xy5)] (.int (0 : Int32)) := V_xb
  refine oWk.st (fun _ kt => st _ (zA X hx hby d22_44 rfl rfl rfl (zI X hx hby d22_45 rfl rfl (zI X hx hby d22_46 rfl rfl kt)))) ?_
  have Oh := K.old O0 (allS og_xb all0)
  obtain ⟨T, X, e0, st⟩ := getS2 X hx hZ hown (host := "") (Or.inl (oW hw 102 rfl)) Via.refl e0 (S_LO_BYTE_SHIFT.ext Oh) (g := (mkF m 47 #[rv xb, iv 5, iv xp] [(.int xp), (.int 5), (.ref xb)])) rfl (hb hby d22_47)
  refine oWk.st (fun _ kt => st _ (XS.ishr X.here hx rfl (hb hby d22_50) rfl (XS.i2b X.here hx rfl (hb hby d22_51) rfl kt))) ?_
  obtain ⟨cl2, Ar2, q2, Sz2, Nn2, Hs2, Ft2⟩ := id V_xb
  have hin2 : ¬ ((5 : Int32) < 0 ∨ cl2.slots.size ≤ ((5 : Int32)).toNatClampNeg) := inb_of Sz2 ⟨by decide, by decide⟩
  obtain ⟨T, h, X, e0, W2, st⟩ := stB X hx hZ e0 Ar2 (j := (5 : Int32)) hin2 (g := (mkF m 52 #[rv xb, iv 5, iv xp] [(iu8 xp), (.int 5), (.ref xb)])) rfl rfl (hb hby d22_52)
  have K := K.wr W2 (Or.inl (List.mem_of_getElem? (i := 0) rfl))
  have V_xb := Arv.set Ar2 q2 Sz2 Nn2 Hs2 Ft2 (fits_nar_byte _) W2 5 rfl (Nat.le_of_ble_eq_true rfl)
  rw [oB8 (xp >>> ((8 : Int32) &&& 31))] at V_xb
  replace V_xb : Arv Z h xb xk .byte (6 : Int32) [(.int xy0), (.int xy1), (.int xy2), (.int xy3), (iu0 xp), (iu8 xp)] (.int (0 : Int32)) := V_xb
  refine oWk.to (mkF m 53 #[rv xb, iv 5, iv xp] []) (fun _ kt => st _ kt) ?_
  exact oRetV X hx hlk hret (hb hby d22_53) (by rw [e0]; exact ⟨rfl, K, V_xb⟩) (by decide) (by decide)
def Q_rTBU_3 (Z : State) (xa : Addr) (xk : ClassId) (xc0 xc1 xc2 : Int32) (h0 : Heap) (v : Option Value) (h : Heap) (L : List Loc) : Prop := ∃ (nb : Addr) (nk : ClassId), v = some (.ref nb) ∧ oKp h0 h [] L ∧ (h0.size ≤ nb) ∧ (Arv Z h nb nk .byte (6 : Int32) [(iu0 xc0), (iu8 xc0), (iu0 xc1), (iu8 xc1), (iu0 xc2), (iu8 xc2)] (.int (0 : Int32)))
theorem rTBU_3 (l : Launch) (Z : State) (a0 : Array Value) (hw : oHW a0 Z) (ws : List Jvm.Cond) (xa : Addr) (xk : ClassId) (xc0 xc1 xc2 : Int32) (h0 : Heap) (O0 : Ext Z.heap h0) (S__assertionsDisabled : Sta Z Z.heap Y1 Y3 "Z" (.int (1 : Int32))) (S_HI_BYTE_SHIFT : Sta Z Z.heap Y1 "HI_BYTE_SHIFT" "I" (.int (0 : Int32))) (S_LO_BYTE_SHIFT : Sta Z Z.heap Y1 "LO_BYTE_SHIFT" "I" (.int (8 : Int32))) (V_xa : Arv Z h0 xa xk .char (3 : Int32) [(.int xc0), (.int xc1), (.int xc2)] (.int (0 : Int32))) :
    oCon l Z yy11 jdk_52_method_14_code 5 (some (.array .byte)) ws ({ frames := 2, cells := 1, slots := 6, locals := 24 } : Room) #[(.ref xa), (.int (0 : Int32)), (.int (3 : Int32))] h0 (Q_rTBU_3 Z xa xk xc0 xc1 xc2 h0) := by
  refine oCon.of (plainFor_of_name pn_3) ?_
  intro p e s m below meth c T X hx hby hml hown hnm hret hlk hZ e0
  have hml : c.maxLocals = 5 := hml
  have K : oKp h0 h0 [] [] := oKp.nil _ _
  refine oWk.cast (g' := (mkF m 0 #[rv xa, iv 0, iv 3, uu, uu] [])) (by first | rfl | (simp [entryFrame, mkF, argsToLocals, Value.category]; done)) ?_
  refine oWk.st (fun _ kt => zI X hx hby d19_0 rfl rfl kt) ?_
  have lt_xa := V_xa.lt
  have Oh := K.old O0 all0
  obtain ⟨_, T, h, Lc2, X, e0, hQ, st⟩ := (cs6 hw).run X hx hZ hown e0 (A := [(.int (3 : Int32))]) rfl (rNBF_3 l Z a0 hw []  h0 Oh ) (W := 0) (by decide) hml (Ls := #[rv xa, iv 0, iv 3, uu, uu]) rfl (rest := []) rfl rfl hby d19_1
  obtain ⟨nb1, nk1, rfl, K1, gn_nb1, V_nb1⟩ := hQ
  have ge_nb1 := Nat.le_trans K.le gn_nb1
  have ne_xa_nb1 : xa ≠ nb1 := Nat.ne_of_lt (Nat.lt_of_lt_of_le lt_xa gn_nb1)
  have K := K.call K1 all0
  refine oWk.to (mkF m 14 #[rv xa, iv 0, iv 3, rv nb1, iv 0] []) (fun _ kt => st _ (zTn X hx hby d19_4 rfl rfl rfl (l' := #[rv xa, iv 0, iv 3, rv nb1, uu]) rfl (zK X hx hby d19_5 rfl (zS X hx hby d19_6 rfl rfl (l' := #[rv xa, iv 0, iv 3, rv nb1, iv 0]) rfl (zJ X hx hby d19_8 rfl rfl (zI X hx hby d19_10 rfl rfl (zN X hx hby d19_11 rfl rfl (tlt (by decide)).2.1 kt))))))) ?_
  refine oWk.st (fun _ kt => zA X hx hby d19_14 rfl rfl rfl (zJ X hx hby d19_15 rfl rfl (zA X hx hby d19_17 rfl rfl rfl (zI X hx hby d19_18 rfl rfl kt)))) ?_
  have V_xa := (V_xa.keep K1.1 nin0)
  refine oWk.st (fun _ kt => oLdC X hx hZ e0 V_xa (0 : Int32) (.int xc0) ⟨by decide, by decide⟩ rfl hby d19_19 rfl rfl kt) ?_
  have Oh := K.old O0 all0
  obtain ⟨_, T, h, Lc5, X, e0, hQ, st⟩ := (cs7 hw).run X hx hZ hown e0 (A := [(.ref nb1), (.int (0 : Int32)), (.int xc0)]) rfl (rPut_3_0 l Z a0 hw [] nb1 nk1 xc0 (0 : Int32) (0 : Int32) (0 : Int32) (0 : Int32) (0 : Int32) (0 : Int32) h Oh S__assertionsDisabled S_HI_BYTE_SHIFT S_LO_BYTE_SHIFT (Nat.le_trans O0.1 ge_nb1) V_nb1) (W := 0) (by decide) hml (Ls := #[rv xa, iv 0, iv 3, rv nb1, iv 0]) rfl (rest := []) rfl rfl hby d19_20
  obtain ⟨rfl, K4, V_nb1⟩ := hQ
  have K := K.call K4 (allS (Or.inr ge_nb1) all0)
  refine oWk.to (mkF m 14 #[rv xa, iv 1, iv 3, rv nb1, iv 1] []) (fun _ kt => st _ (zC X hx hby d19_23 rfl rfl (l' := #[rv xa, iv ((0 : Int32) + (1 : Int32)), iv 3, rv nb1, iv 0]) rfl (zC X hx hby d19_26 rfl rfl (l' := #[rv xa, iv 1, iv 3, rv nb1, iv ((0 : Int32) + (1 : Int32))]) rfl (zG X hx hby d19_29 rfl (pc' := 8) rfl (zJ X hx hby d19_8 rfl rfl (zI X hx hby d19_10 rfl rfl (zN X hx hby d19_11 rfl rfl (tlt (by decide)).2.1 kt))))))) ?_
  refine oWk.st (fun _ kt => zA X hx hby d19_14 rfl rfl rfl (zJ X hx hby d19_15 rfl rfl (zA X hx hby d19_17 rfl rfl rfl (zI X hx hby d19_18 rfl rfl kt)))) ?_
  have V_xa := (V_xa.keep K4.1 (ninS ne_xa_nb1 nin0))
  refine oWk.st (fun _ kt => oLdC X hx hZ e0 V_xa (1 : Int32) (.int xc1) ⟨by decide, by decide⟩ rfl hby d19_19 rfl rfl kt) ?_
  have Oh := K.old O0 all0
  obtain ⟨_, T, h, Lc8, X, e0, hQ, st⟩ := (cs7 hw).run X hx hZ hown e0 (A := [(.ref nb1), (.int (1 : Int32)), (.int xc1)]) rfl (rPut_3_1 l Z a0 hw [] nb1 nk1 xc1 ((xc0 >>> ((0 : Int32) &&& 31)).toInt8.toInt32) ((xc0 >>> ((8 : Int32) &&& 31)).toInt8.toInt32) (0 : Int32) (0 : Int32) (0 : Int32) (0 : Int32) h Oh S__assertionsDisabled S_HI_BYTE_SHIFT S_LO_BYTE_SHIFT (Nat.le_trans O0.1 ge_nb1) V_nb1) (W := 0) (by decide) hml (Ls := #[rv xa, iv 1, iv 3, rv nb1, iv 1]) rfl (rest := []) rfl rfl hby d19_20
  obtain ⟨rfl, K7, V_nb1⟩ := hQ
  have K := K.call K7 (allS (Or.inr ge_nb1) all0)
  refine oWk.to (mkF m 14 #[rv xa, iv 2, iv 3, rv nb1, iv 2] []) (fun _ kt => st _ (zC X hx hby d19_23 rfl rfl (l' := #[rv xa, iv ((1 : Int32) + (1 : Int32)), iv 3, rv nb1, iv 1]) rfl (zC X hx hby d19_26 rfl rfl (l' := #[rv xa, iv 2, iv 3, rv nb1, iv ((1 : Int32) + (1 : Int32))]) rfl (zG X hx hby d19_29 rfl (pc' := 8) rfl (zJ X hx hby d19_8 rfl rfl (zI X hx hby d19_10 rfl rfl (zN X hx hby d19_11 rfl rfl (tlt (by decide)).2.1 kt))))))) ?_
  refine oWk.st (fun _ kt => zA X hx hby d19_14 rfl rfl rfl (zJ X hx hby d19_15 rfl rfl (zA X hx hby d19_17 rfl rfl rfl (zI X hx hby d19_18 rfl rfl kt)))) ?_
  have V_xa := (V_xa.keep K7.1 (ninS ne_xa_nb1 nin0))
  refine oWk.st (fun _ kt => oLdC X hx hZ e0 V_xa (2 : Int32) (.int xc2) ⟨by decide, by decide⟩ rfl hby d19_19 rfl rfl kt) ?_
  have Oh := K.old O0 all0
  obtain ⟨_, T, h, Lc11, X, e0, hQ, st⟩ := (cs7 hw).run X hx hZ hown e0 (A := [(.ref nb1), (.int (2 : Int32)), (.int xc2)]) rfl (rPut_3_2 l Z a0 hw [] nb1 nk1 xc2 ((xc0 >>> ((0 : Int32) &&& 31)).toInt8.toInt32) ((xc0 >>> ((8 : Int32) &&& 31)).toInt8.toInt32) ((xc1 >>> ((0 : Int32) &&& 31)).toInt8.toInt32) ((xc1 >>> ((8 : Int32) &&& 31)).toInt8.toInt32) (0 : Int32) (0 : Int32) h Oh S__assertionsDisabled S_HI_BYTE_SHIFT S_LO_BYTE_SHIFT (Nat.le_trans O0.1 ge_nb1) V_nb1) (W := 0) (by decide) hml (Ls := #[rv xa, iv 2, iv 3, rv nb1, iv 2]) rfl (rest := []) rfl rfl hby d19_20
  obtain ⟨rfl, K10, V_nb1⟩ := hQ
  have K := K.call K10 (allS (Or.inr ge_nb1) all0)
  refine oWk.to (mkF m 32 #[rv xa, iv 3, iv 3, rv nb1, iv 3] []) (fun _ kt => st _ (zC X hx hby d19_23 rfl rfl (l' := #[rv xa, iv ((2 : Int32) + (1 : Int32)), iv 3, rv nb1, iv 2]) rfl (zC X hx hby d19_26 rfl rfl (l' := #[rv xa, iv 3, iv 3, rv nb1, iv ((2 : Int32) + (1 : Int32))]) rfl (zG X hx hby d19_29 rfl (pc' := 8) rfl (zJ X hx hby d19_8 rfl rfl (zI X hx hby d19_10 rfl rfl (zY X hx hby d19_11 rfl rfl (flt (by decide)).2.1 (pc' := 32) rfl kt))))))) ?_
  refine oWk.to (mkF m 33 #[rv xa, iv 3, iv 3, rv nb1, iv 3] [(.ref nb1)]) (fun _ kt => zA X hx hby d19_32 rfl rfl rfl kt) ?_
  exact oRetA X hx hlk hret rfl rfl (hb hby d19_33) (by rw [e0]; exact ⟨nb1, nk1, rfl, K, ge_nb1, V_nb1⟩) (by decide) (by decide)
def Q_rGC_3_0 (Z : State) (xb : Addr) (xk : ClassId) (xc0 xc1 xc2 : Int32) (h0 : Heap) (v : Option Value) (h : Heap) (L : List Loc) : Prop := v = some (.int xc0) ∧ h = h0 ∧ oKp h0 h [] L
theorem rGC_3_0 (l : Launch) (Z : State) (a0 : Array Value) (hw : oHW a0 Z) (ws : List Jvm.Cond) (xb : Addr) (xk : ClassId) (xc0 xc1 xc2 : Int32) (h0 : Heap) (O0 : Ext Z.heap h0) (S__assertionsDisabled : Sta Z Z.heap Y1 Y3 "Z" (.int (1 : Int32))) (S_HI_BYTE_SHIFT : Sta Z Z.heap Y1 "HI_BYTE_SHIFT" "I" (.int (0 : Int32))) (S_LO_BYTE_SHIFT : Sta Z Z.heap Y1 "LO_BYTE_SHIFT" "I" (.int (8 : Int32))) (hr : 0 ≤ xc0.toInt ∧ xc0.toInt < 65536) (V_xb : Arv Z h0 xb xk .byte (6 : Int32) [(iu0 xc0), (iu8 xc0), (iu0 xc1), (iu8 xc1), (iu0 xc2), (iu8 xc2)] (.int (0 : Int32))) :
    oCon l Z yy12 jdk_52_method_5_code 2 (some .char) ws ({ frames := 0, cells := 0, slots := 0, locals := 0 } : Room) #[(.ref xb), (.int (0 : Int32))] h0 (Q_rGC_3_0 Z xb xk xc0 xc1 xc2 h0) := by
  refine oCon.of (plainFor_of_name pn_3) ?_
  intro p e s m below meth c T X hx hby hml hown hnm hret hlk hZ e0
  have hml : c.maxLocals = 2 := hml
  have K : oKp h0 h0 [] [] := oKp.nil _ _
  refine oWk.cast (g' := (mkF m 0 #[rv xb, iv 0] [])) (by first | rfl | (simp [entryFrame, mkF, argsToLocals, Value.category]; done)) ?_
  have Oh := K.old O0 all0
  obtain ⟨T, X, e0, st⟩ := getS2 X hx hZ hown (host := "") (Or.inl (oW hw 100 rfl)) Via.refl e0 (S__assertionsDisabled.ext Oh) (g := (mkF m 0 #[rv xb, iv 0] [])) rfl (hb hby d23_0)
  refine oWk.to (mkF m 33 #[rv xb, iv 0] [(.ref xb)]) (fun _ kt => st _ (zF X hx hby d23_3 rfl rfl ((if0 _ _).trans (feq (by decide)).2) (pc' := 28) rfl (zI X hx hby d23_28 rfl rfl (zK X hx hby d23_29 rfl (XS.ishl X.here hx rfl (hb hby d23_30) rfl (zSn X hx hby d23_31 rfl rfl (l' := #[rv xb, iv 0]) rfl (zA X hx hby d23_32 rfl rfl rfl kt))))))) ?_
  refine oWk.st (fun _ kt => zI X hx hby d23_33 rfl rfl (zC X hx hby d23_34 rfl rfl (l' := #[rv xb, iv ((0 : Int32) + (1 : Int32))]) rfl (oLdB X hx hZ e0 V_xb (0 : Int32) (iu0 xc0) ⟨by decide, by decide⟩ rfl hby d23_37 rfl rfl (zM X hx hby d23_38 rfl (XS.iand X.here hx rfl (hb hby d23_41) rfl kt))))) ?_
  obtain ⟨T, X, e0, st⟩ := getS2 X hx hZ hown (host := "") (Or.inl (oW hw 101 rfl)) Via.refl e0 (S_HI_BYTE_SHIFT.ext Oh) (g := (mkF m 42 #[rv xb, iv 1] [(.int (((xc0 >>> ((0 : Int32) &&& 31)).toInt8.toInt32) &&& (255 : Int32)))])) rfl (hb hby d23_42)
  refine oWk.to (mkF m 53 #[rv xb, iv 1] [(.int (((xc0 >>> ((8 : Int32) &&& 31)).toInt8.toInt32) &&& (255 : Int32))), (.int ((((xc0 >>> ((0 : Int32) &&& 31)).toInt8.toInt32) &&& (255 : Int32)) <<< ((0 : Int32) &&& 31)))]) (fun _ kt => st _ (XS.ishl X.here hx rfl (hb hby d23_45) rfl (zA X hx hby d23_46 rfl rfl rfl (zI X hx hby d23_47 rfl rfl (oLdB X hx hZ e0 V_xb (1 : Int32) (iu8 xc0) ⟨by decide, by decide⟩ rfl hby d23_48 rfl rfl (zM X hx hby d23_49 rfl (XS.iand X.here hx rfl (hb hby d23_52) rfl kt))))))) ?_
  obtain ⟨T, X, e0, st⟩ := getS2 X hx hZ hown (host := "") (Or.inl (oW hw 102 rfl)) Via.refl e0 (S_LO_BYTE_SHIFT.ext Oh) (g := (mkF m 53 #[rv xb, iv 1] [(.int (((xc0 >>> ((8 : Int32) &&& 31)).toInt8.toInt32) &&& (255 : Int32))), (.int ((((xc0 >>> ((0 : Int32) &&& 31)).toInt8.toInt32) &&& (255 : Int32)) <<< ((0 : Int32) &&& 31)))])) rfl (hb hby d23_53)
  refine oWk.to (mkF m 59 #[rv xb, iv 1] [(.int ((((((xc0 >>> ((0 : Int32) &&& 31)).toInt8.toInt32) &&& (255 : Int32)) <<< ((0 : Int32) &&& 31)) ||| ((((xc0 >>> ((8 : Int32) &&& 31)).toInt8.toInt32) &&& (255 : Int32)) <<< ((8 : Int32) &&& 31))).toUInt32.toUInt16.toUInt32.toInt32))]) (fun _ kt => st _ (XS.ishl X.here hx rfl (hb hby d23_56) rfl (XS.ior X.here hx rfl (hb hby d23_57) rfl (XS.i2c X.here hx rfl (hb hby d23_58) rfl kt)))) ?_
  show oWk _ _ _ _ T (mkF m 59 #[rv xb, iv 1] [(.int ((((((xc0 >>> ((0 : Int32) &&& 31)).toInt8.toInt32) &&& (255 : Int32)) <<< ((0 : Int32) &&& 31)) ||| ((((xc0 >>> ((8 : Int32) &&& 31)).toInt8.toInt32) &&& (255 : Int32)) <<< ((8 : Int32) &&& 31))).toUInt32.toUInt16.toUInt32.toInt32))])
  rw [oU16 hr]
  show oWk _ _ _ _ T (mkF m 59 #[rv xb, iv 1] [(.int xc0)])
  exact oRetN X hx hlk hret (Or.inr (Or.inl rfl)) (show narrow .char (.int xc0) = .int xc0 from congrArg Value.int (oChrU hr)) (hb hby d23_59) (by rw [e0]; exact ⟨rfl, rfl, K⟩) (by decide) (by decide)
def Q_rGC_3_1 (Z : State) (xb : Addr) (xk : ClassId) (xc0 xc1 xc2 : Int32) (h0 : Heap) (v : Option Value) (h : Heap) (L : List Loc) : Prop := v = some (.int xc1) ∧ h = h0 ∧ oKp h0 h [] L
theorem rGC_3_1 (l : Launch) (Z : State) (a0 : Array Value) (hw : oHW a0 Z) (ws : List Jvm.Cond) (xb : Addr) (xk : ClassId) (xc0 xc1 xc2 : Int32) (h0 : Heap) (O0 : Ext Z.heap h0) (S__assertionsDisabled : Sta Z Z.heap Y1 Y3 "Z" (.int (1 : Int32))) (S_HI_BYTE_SHIFT : Sta Z Z.heap Y1 "HI_BYTE_SHIFT" "I" (.int (0 : Int32))) (S_LO_BYTE_SHIFT : Sta Z Z.heap Y1 "LO_BYTE_SHIFT" "I" (.int (8 : Int32))) (hr : 0 ≤ xc1.toInt ∧ xc1.toInt < 65536) (V_xb : Arv Z h0 xb xk .byte (6 : Int32) [(iu0 xc0), (iu8 xc0), (iu0 xc1), (iu8 xc1), (iu0 xc2), (iu8 xc2)] (.int (0 : Int32))) :
    oCon l Z yy12 jdk_52_method_5_code 2 (some .char) ws ({ frames := 0, cells := 0, slots := 0, locals := 0 } : Room) #[(.ref xb), (.int (1 : Int32))] h0 (Q_rGC_3_1 Z xb xk xc0 xc1 xc2 h0) := by
  refine oCon.of (plainFor_of_name pn_3) ?_
  intro p e s m below meth c T X hx hby hml hown hnm hret hlk hZ e0
  have hml : c.maxLocals = 2 := hml
  have K : oKp h0 h0 [] [] := oKp.nil _ _
  refine oWk.cast (g' := (mkF m 0 #[rv xb, iv 1] [])) (by first | rfl | (simp [entryFrame, mkF, argsToLocals, Value.category]; done)) ?_
  have Oh := K.old O0 all0
  obtain ⟨T, X, e0, st⟩ := getS2 X hx hZ hown (host := "") (Or.inl (oW hw 100 rfl)) Via.refl e0 (S__assertionsDisabled.ext Oh) (g := (mkF m 0 #[rv xb, iv 1] [])) rfl (hb hby d23_0)
  refine oWk.to (mkF m 33 #[rv xb, iv 2] [(.ref xb)]) (fun _ kt => st _ (zF X hx hby d23_3 rfl rfl ((if0 _ _).trans (feq (by decide)).2) (pc' := 28) rfl (zI X hx hby d23_28 rfl rfl (zK X hx hby d23_29 rfl (XS.ishl X.here hx rfl (hb hby d23_30) rfl (zSn X hx hby d23_31 rfl rfl (l' := #[rv xb, iv 2]) rfl (zA X hx hby d23_32 rfl rfl rfl kt))))))) ?_
  refine oWk.st (fun _ kt => zI X hx hby d23_33 rfl rfl (zC X hx hby d23_34 rfl rfl (l' := #[rv xb, iv ((2 : Int32) + (1 : Int32))]) rfl (oLdB X hx hZ e0 V_xb (2 : Int32) (iu0 xc1) ⟨by decide, by decide⟩ rfl hby d23_37 rfl rfl (zM X hx hby d23_38 rfl (XS.iand X.here hx rfl (hb hby d23_41) rfl kt))))) ?_
  obtain ⟨T, X, e0, st⟩ := getS2 X hx hZ hown (host := "") (Or.inl (oW hw 101 rfl)) Via.refl e0 (S_HI_BYTE_SHIFT.ext Oh) (g := (mkF m 42 #[rv xb, iv 3] [(.int (((xc1 >>> ((0 : Int32) &&& 31)).toInt8.toInt32) &&& (255 : Int32)))])) rfl (hb hby d23_42)
  refine oWk.to (mkF m 53 #[rv xb, iv 3] [(.int (((xc1 >>> ((8 : Int32) &&& 31)).toInt8.toInt32) &&& (255 : Int32))), (.int ((((xc1 >>> ((0 : Int32) &&& 31)).toInt8.toInt32) &&& (255 : Int32)) <<< ((0 : Int32) &&& 31)))]) (fun _ kt => st _ (XS.ishl X.here hx rfl (hb hby d23_45) rfl (zA X hx hby d23_46 rfl rfl rfl (zI X hx hby d23_47 rfl rfl (oLdB X hx hZ e0 V_xb (3 : Int32) (iu8 xc1) ⟨by decide, by decide⟩ rfl hby d23_48 rfl rfl (zM X hx hby d23_49 rfl (XS.iand X.here hx rfl (hb hby d23_52) rfl kt))))))) ?_
  obtain ⟨T, X, e0, st⟩ := getS2 X hx hZ hown (host := "") (Or.inl (oW hw 102 rfl)) Via.refl e0 (S_LO_BYTE_SHIFT.ext Oh) (g := (mkF m 53 #[rv xb, iv 3] [(.int (((xc1 >>> ((8 : Int32) &&& 31)).toInt8.toInt32) &&& (255 : Int32))), (.int ((((xc1 >>> ((0 : Int32) &&& 31)).toInt8.toInt32) &&& (255 : Int32)) <<< ((0 : Int32) &&& 31)))])) rfl (hb hby d23_53)
  refine oWk.to (mkF m 59 #[rv xb, iv 3] [(.int ((((((xc1 >>> ((0 : Int32) &&& 31)).toInt8.toInt32) &&& (255 : Int32)) <<< ((0 : Int32) &&& 31)) ||| ((((xc1 >>> ((8 : Int32) &&& 31)).toInt8.toInt32) &&& (255 : Int32)) <<< ((8 : Int32) &&& 31))).toUInt32.toUInt16.toUInt32.toInt32))]) (fun _ kt => st _ (XS.ishl X.here hx rfl (hb hby d23_56) rfl (XS.ior X.here hx rfl (hb hby d23_57) rfl (XS.i2c X.here hx rfl (hb hby d23_58) rfl kt)))) ?_
  show oWk _ _ _ _ T (mkF m 59 #[rv xb, iv 3] [(.int ((((((xc1 >>> ((0 : Int32) &&& 31)).toInt8.toInt32) &&& (255 : Int32)) <<< ((0 : Int32) &&& 31)) ||| ((((xc1 >>> ((8 : Int32) &&& 31)).toInt8.toInt32) &&& (255 : Int32)) <<< ((8 : Int32) &&& 31))).toUInt32.toUInt16.toUInt32.toInt32))])
  rw [oU16 hr]
  show oWk _ _ _ _ T (mkF m 59 #[rv xb, iv 3] [(.int xc1)])
  exact oRetN X hx hlk hret (Or.inr (Or.inl rfl)) (show narrow .char (.int xc1) = .int xc1 from congrArg Value.int (oChrU hr)) (hb hby d23_59) (by rw [e0]; exact ⟨rfl, rfl, K⟩) (by decide) (by decide)
def Q_rGC_3_2 (Z : State) (xb : Addr) (xk : ClassId) (xc0 xc1 xc2 : Int32) (h0 : Heap) (v : Option Value) (h : Heap) (L : List Loc) : Prop := v = some (.int xc2) ∧ h = h0 ∧ oKp h0 h [] L
theorem rGC_3_2 (l : Launch) (Z : State) (a0 : Array Value) (hw : oHW a0 Z) (ws : List Jvm.Cond) (xb : Addr) (xk : ClassId) (xc0 xc1 xc2 : Int32) (h0 : Heap) (O0 : Ext Z.heap h0) (S__assertionsDisabled : Sta Z Z.heap Y1 Y3 "Z" (.int (1 : Int32))) (S_HI_BYTE_SHIFT : Sta Z Z.heap Y1 "HI_BYTE_SHIFT" "I" (.int (0 : Int32))) (S_LO_BYTE_SHIFT : Sta Z Z.heap Y1 "LO_BYTE_SHIFT" "I" (.int (8 : Int32))) (hr : 0 ≤ xc2.toInt ∧ xc2.toInt < 65536) (V_xb : Arv Z h0 xb xk .byte (6 : Int32) [(iu0 xc0), (iu8 xc0), (iu0 xc1), (iu8 xc1), (iu0 xc2), (iu8 xc2)] (.int (0 : Int32))) :
    oCon l Z yy12 jdk_52_method_5_code 2 (some .char) ws ({ frames := 0, cells := 0, slots := 0, locals := 0 } : Room) #[(.ref xb), (.int (2 : Int32))] h0 (Q_rGC_3_2 Z xb xk xc0 xc1 xc2 h0) := by
  refine oCon.of (plainFor_of_name pn_3) ?_
  intro p e s m below meth c T X hx hby hml hown hnm hret hlk hZ e0
  have hml : c.maxLocals = 2 := hml
  have K : oKp h0 h0 [] [] := oKp.nil _ _
  refine oWk.cast (g' := (mkF m 0 #[rv xb, iv 2] [])) (by first | rfl | (simp [entryFrame, mkF, argsToLocals, Value.category]; done)) ?_
  have Oh := K.old O0 all0
  obtain ⟨T, X, e0, st⟩ := getS2 X hx hZ hown (host := "") (Or.inl (oW hw 100 rfl)) Via.refl e0 (S__assertionsDisabled.ext Oh) (g := (mkF m 0 #[rv xb, iv 2] [])) rfl (hb hby d23_0)
  refine oWk.to (mkF m 33 #[rv xb, iv 4] [(.ref xb)]) (fun _ kt => st _ (zF X hx hby d23_3 rfl rfl ((if0 _ _).trans (feq (by decide)).2) (pc' := 28) rfl (zI X hx hby d23_28 rfl rfl (zK X hx hby d23_29 rfl (XS.ishl X.here hx rfl (hb hby d23_30) rfl (zSn X hx hby d23_31 rfl rfl (l' := #[rv xb, iv 4]) rfl (zA X hx hby d23_32 rfl rfl rfl kt))))))) ?_
  refine oWk.st (fun _ kt => zI X hx hby d23_33 rfl rfl (zC X hx hby d23_34 rfl rfl (l' := #[rv xb, iv ((4 : Int32) + (1 : Int32))]) rfl (oLdB X hx hZ e0 V_xb (4 : Int32) (iu0 xc2) ⟨by decide, by decide⟩ rfl hby d23_37 rfl rfl (zM X hx hby d23_38 rfl (XS.iand X.here hx rfl (hb hby d23_41) rfl kt))))) ?_
  obtain ⟨T, X, e0, st⟩ := getS2 X hx hZ hown (host := "") (Or.inl (oW hw 101 rfl)) Via.refl e0 (S_HI_BYTE_SHIFT.ext Oh) (g := (mkF m 42 #[rv xb, iv 5] [(.int (((xc2 >>> ((0 : Int32) &&& 31)).toInt8.toInt32) &&& (255 : Int32)))])) rfl (hb hby d23_42)
  refine oWk.to (mkF m 53 #[rv xb, iv 5] [(.int (((xc2 >>> ((8 : Int32) &&& 31)).toInt8.toInt32) &&& (255 : Int32))), (.int ((((xc2 >>> ((0 : Int32) &&& 31)).toInt8.toInt32) &&& (255 : Int32)) <<< ((0 : Int32) &&& 31)))]) (fun _ kt => st _ (XS.ishl X.here hx rfl (hb hby d23_45) rfl (zA X hx hby d23_46 rfl rfl rfl (zI X hx hby d23_47 rfl rfl (oLdB X hx hZ e0 V_xb (5 : Int32) (iu8 xc2) ⟨by decide, by decide⟩ rfl hby d23_48 rfl rfl (zM X hx hby d23_49 rfl (XS.iand X.here hx rfl (hb hby d23_52) rfl kt))))))) ?_
  obtain ⟨T, X, e0, st⟩ := getS2 X hx hZ hown (host := "") (Or.inl (oW hw 102 rfl)) Via.refl e0 (S_LO_BYTE_SHIFT.ext Oh) (g := (mkF m 53 #[rv xb, iv 5] [(.int (((xc2 >>> ((8 : Int32) &&& 31)).toInt8.toInt32) &&& (255 : Int32))), (.int ((((xc2 >>> ((0 : Int32) &&& 31)).toInt8.toInt32) &&& (255 : Int32)) <<< ((0 : Int32) &&& 31)))])) rfl (hb hby d23_53)
  refine oWk.to (mkF m 59 #[rv xb, iv 5] [(.int ((((((xc2 >>> ((0 : Int32) &&& 31)).toInt8.toInt32) &&& (255 : Int32)) <<< ((0 : Int32) &&& 31)) ||| ((((xc2 >>> ((8 : Int32) &&& 31)).toInt8.toInt32) &&& (255 : Int32)) <<< ((8 : Int32) &&& 31))).toUInt32.toUInt16.toUInt32.toInt32))]) (fun _ kt => st _ (XS.ishl X.here hx rfl (hb hby d23_56) rfl (XS.ior X.here hx rfl (hb hby d23_57) rfl (XS.i2c X.here hx rfl (hb hby d23_58) rfl kt)))) ?_
  show oWk _ _ _ _ T (mkF m 59 #[rv xb, iv 5] [(.int ((((((xc2 >>> ((0 : Int32) &&& 31)).toInt8.toInt32) &&& (255 : Int32)) <<< ((0 : Int32) &&& 31)) ||| ((((xc2 >>> ((8 : Int32) &&& 31)).toInt8.toInt32) &&& (255 : Int32)) <<< ((8 : Int32) &&& 31))).toUInt32.toUInt16.toUInt32.toInt32))])
  rw [oU16 hr]
  show oWk _ _ _ _ T (mkF m 59 #[rv xb, iv 5] [(.int xc2)])
  exact oRetN X hx hlk hret (Or.inr (Or.inl rfl)) (show narrow .char (.int xc2) = .int xc2 from congrArg Value.int (oChrU hr)) (hb hby d23_59) (by rw [e0]; exact ⟨rfl, rfl, K⟩) (by decide) (by decide)
def Q_rC3U_3 (Z : State) (xa : Addr) (xk : ClassId) (xc0 xc1 xc2 : Int32) (h0 : Heap) (v : Option Value) (h : Heap) (L : List Loc) : Prop := ∃ (nb : Addr) (nk : ClassId), v = some (.ref nb) ∧ oKp h0 h [] L ∧ (h0.size ≤ nb) ∧ (Arv Z h nb nk .byte (6 : Int32) [(iu0 xc0), (iu8 xc0), (iu0 xc1), (iu8 xc1), (iu0 xc2), (iu8 xc2)] (.int (0 : Int32)))
theorem rC3U_3 (l : Launch) (Z : State) (a0 : Array Value) (hw : oHW a0 Z) (ws : List Jvm.Cond) (xa : Addr) (xk : ClassId) (xc0 xc1 xc2 : Int32) (h0 : Heap) (O0 : Ext Z.heap h0) (S__assertionsDisabled : Sta Z Z.heap Y1 Y3 "Z" (.int (1 : Int32))) (S_HI_BYTE_SHIFT : Sta Z Z.heap Y1 "HI_BYTE_SHIFT" "I" (.int (0 : Int32))) (S_LO_BYTE_SHIFT : Sta Z Z.heap Y1 "LO_BYTE_SHIFT" "I" (.int (8 : Int32))) (V_xa : Arv Z h0 xa xk .char (3 : Int32) [(.int xc0), (.int xc1), (.int xc2)] (.int (0 : Int32))) (hr0 : 0 ≤ xc0.toInt ∧ xc0.toInt < 65536) (hr1 : 0 ≤ xc1.toInt ∧ xc1.toInt < 65536) (hr2 : 0 ≤ xc2.toInt ∧ xc2.toInt < 65536) (hU : ((255 : Int32) < xc0) ∨ (¬ (255 : Int32) < xc0 ∧ (255 : Int32) < xc1) ∨ (¬ (255 : Int32) < xc0 ∧ ¬ (255 : Int32) < xc1 ∧ (255 : Int32) < xc2)) :
    oCon l Z yy6 jdk_52_method_16_code 6 (some (.array .byte)) ws ({ frames := 3, cells := 2, slots := 9, locals := 40 } : Room) #[(.ref xa), (.int (0 : Int32)), (.int (3 : Int32))] h0 (Q_rC3U_3 Z xa xk xc0 xc1 xc2 h0) := by
  refine oCon.of (plainFor_of_name pn_3) ?_
  intro p e s m below meth c T X hx hby hml hown hnm hret hlk hZ e0
  have hml : c.maxLocals = 6 := hml
  have K : oKp h0 h0 [] [] := oKp.nil _ _
  refine oWk.cast (g' := (mkF m 0 #[rv xa, iv 0, iv 3, uu, uu, uu] [])) (by first | rfl | (simp [entryFrame, mkF, argsToLocals, Value.category]; done)) ?_
  rcases hU with hgt | ⟨hle0, hgt⟩ | ⟨hle0, hle1, hgt⟩
  · show oWk _ _ _ _ T (mkF m 0 #[rv xa, iv 0, iv 3, uu, uu, uu] [])
    refine oWk.st (fun _ kt => zI X hx hby d7_0 rfl rfl kt) ?_
    obtain ⟨o1, g1⟩ : ∃ z, z = h0.size := ⟨_, rfl⟩
    have ne_xa_o1 : xa ≠ o1 := Nat.ne_of_lt (Nat.lt_of_lt_of_le V_xa.lt (Nat.le_of_eq g1.symm))
    have ge_o1 : h0.size ≤ o1 := Nat.le_trans K.le (Nat.le_of_eq g1.symm)
    obtain ⟨T, h, k1, X, e0, E1, A1, st⟩ := newP X hx hZ (oW hw 17 rfl) e0 (g := (mkF m 1 #[rv xa, iv 0, iv 3, uu, uu, uu] [(.int 3)])) rfl (hb hby d7_1) rfl (by decide) (cap := 3) (by decide) (by decide) (by decide) (by decide)
    rw [← g1] at A1 st
    have K := K.ext E1
    have V_o1 : Arv Z h o1 k1 .byte (3 : Int32) [(.int (0 : Int32)), (.int (0 : Int32)), (.int (0 : Int32))] (.int (0 : Int32)) := (Arv.new A1 (by decide)).pad (pad_rep [] (.int (0 : Int32)) 3)
    refine oWk.to (mkF m 9 #[rv xa, iv 0, iv 3, rv o1, uu, uu] [(.int 3), (.int 0), (.ref o1), (.int 0), (.ref xa)]) (fun _ kt => st _ (zTn X hx hby d7_3 rfl rfl rfl (l' := #[rv xa, iv 0, iv 3, rv o1, uu, uu]) rfl (zA X hx hby d7_4 rfl rfl rfl (zI X hx hby d7_5 rfl rfl (zA X hx hby d7_6 rfl rfl rfl (zK X hx hby d7_7 rfl (zI X hx hby d7_8 rfl rfl kt))))))) ?_
    have V_xa := (V_xa.ext E1)
    have Oh := K.old O0 all0
    obtain ⟨_, T, h, Lc3, X, e0, hQ, st⟩ := (cs1 hw).run X hx hZ hown e0 (A := [(.ref xa), (.int (0 : Int32)), (.ref o1), (.int (0 : Int32)), (.int (3 : Int32))]) rfl (rC5U_3_0 l Z a0 hw [] xa o1 xk k1 xc0 xc1 xc2 h Oh (Nat.le_trans O0.1 ge_o1) ne_xa_o1 V_xa V_o1 hgt) (W := 0) (by decide) hml (Ls := #[rv xa, iv 0, iv 3, rv o1, uu, uu]) rfl (rest := []) rfl rfl hby d7_9
    obtain ⟨rfl, K2⟩ := hQ
    have K := K.call K2 (allS (Or.inr ge_o1) all0)
    refine oWk.to (mkF m 22 #[rv xa, iv 0, iv 3, rv o1, iv 0, uu] [(.int 0), (.ref xa)]) (fun _ kt => st _ (zS X hx hby d7_12 rfl rfl (l' := #[rv xa, iv 0, iv 3, rv o1, iv 0, uu]) rfl (zJ X hx hby d7_14 rfl rfl (zI X hx hby d7_16 rfl rfl (zN X hx hby d7_17 rfl rfl (feq (by decide)).1 (zA X hx hby d7_20 rfl rfl rfl (zI X hx hby d7_21 rfl rfl kt))))))) ?_
    refine oWk.st (fun _ kt => zI X hx hby d7_22 rfl rfl kt) ?_
    have V_xa := (V_xa.keep K2.1 (ninS ne_xa_o1 nin0))
    have lt_xa := V_xa.lt
    have Oh := K.old O0 all0
    obtain ⟨_, T, h, Lc5, X, e0, hQ, st⟩ := (cs8 hw).run X hx hZ hown e0 (A := [(.ref xa), (.int (0 : Int32)), (.int (3 : Int32))]) rfl (rTBU_3 l Z a0 hw [] xa xk xc0 xc1 xc2 h Oh S__assertionsDisabled S_HI_BYTE_SHIFT S_LO_BYTE_SHIFT V_xa) (W := 0) (by decide) hml (Ls := #[rv xa, iv 0, iv 3, rv o1, iv 0, uu]) rfl (rest := []) rfl rfl hby d7_23
    obtain ⟨nb4, nk4, rfl, K4, gn_nb4, V_nb4⟩ := hQ
    have ge_nb4 := Nat.le_trans K.le gn_nb4
    have ne_xa_nb4 : xa ≠ nb4 := Nat.ne_of_lt (Nat.lt_of_lt_of_le lt_xa gn_nb4)
    have K := K.call K4 all0
    refine oWk.st (fun _ kt => st _ (zT X hx hby d7_26 rfl rfl rfl (l' := #[rv xa, iv 0, iv 3, rv o1, iv 0, rv nb4]) rfl (zB X hx hby d7_28 rfl rfl rfl (zJ X hx hby d7_30 rfl rfl kt)))) ?_
    have Oh := K.old O0 all0
    obtain ⟨T, L7, X, e0, K, st⟩ := (cs9 hw).pure X hx hZ hown e0 K (A := [(.ref nb4), (.int (0 : Int32))]) rfl (rGC_3_0 l Z a0 hw [] nb4 nk4 xc0 xc1 xc2 h Oh S__assertionsDisabled S_HI_BYTE_SHIFT S_LO_BYTE_SHIFT hr0 V_nb4) (fun _ _ _ q => q) (W := 0) (by decide) hml (Ls := #[rv xa, iv 0, iv 3, rv o1, iv 0, rv nb4]) rfl (rest := []) rfl rfl hby d7_32
    refine oWk.to (mkF m 56 #[rv xa, iv 0, iv 3, rv o1, iv 0, rv nb4] [(.ref nb4)]) (fun _ kt => st _ (zM X hx hby d7_35 rfl (zY X hx hby d7_38 rfl rfl (tlt hgt).2.2.1 (pc' := 54) rfl (zB X hx hby d7_54 rfl rfl rfl kt)))) ?_
    exact oRetA X hx hlk hret rfl rfl (hb hby d7_56) (by rw [e0]; exact ⟨nb4, nk4, rfl, K, ge_nb4, V_nb4⟩) (by decide) (by decide)
  · show oWk _ _ _ _ T (mkF m 0 #[rv xa, iv 0, iv 3, uu, uu, uu] [])
    refine oWk.st (fun _ kt => zI X hx hby d7_0 rfl rfl kt) ?_
    obtain ⟨o8, g8⟩ : ∃ z, z = h0.size := ⟨_, rfl⟩
    have ne_xa_o8 : xa ≠ o8 := Nat.ne_of_lt (Nat.lt_of_lt_of_le V_xa.lt (Nat.le_of_eq g8.symm))
    have ge_o8 : h0.size ≤ o8 := Nat.le_trans K.le (Nat.le_of_eq g8.symm)
    obtain ⟨T, h, k8, X, e0, E8, A8, st⟩ := newP X hx hZ (oW hw 17 rfl) e0 (g := (mkF m 1 #[rv xa, iv 0, iv 3, uu, uu, uu] [(.int 3)])) rfl (hb hby d7_1) rfl (by decide) (cap := 3) (by decide) (by decide) (by decide) (by decide)
    rw [← g8] at A8 st
    have K := K.ext E8
    have V_o8 : Arv Z h o8 k8 .byte (3 : Int32) [(.int (0 : Int32)), (.int (0 : Int32)), (.int (0 : Int32))] (.int (0 : Int32)) := (Arv.new A8 (by decide)).pad (pad_rep [] (.int (0 : Int32)) 3)
    refine oWk.to (mkF m 9 #[rv xa, iv 0, iv 3, rv o8, uu, uu] [(.int 3), (.int 0), (.ref o8), (.int 0), (.ref xa)]) (fun _ kt => st _ (zTn X hx hby d7_3 rfl rfl rfl (l' := #[rv xa, iv 0, iv 3, rv o8, uu, uu]) rfl (zA X hx hby d7_4 rfl rfl rfl (zI X hx hby d7_5 rfl rfl (zA X hx hby d7_6 rfl rfl rfl (zK X hx hby d7_7 rfl (zI X hx hby d7_8 rfl rfl kt))))))) ?_
    have V_xa := (V_xa.ext E8)
    have Oh := K.old O0 all0
    obtain ⟨_, T, h, Lc10, X, e0, hQ, st⟩ := (cs1 hw).run X hx hZ hown e0 (A := [(.ref xa), (.int (0 : Int32)), (.ref o8), (.int (0 : Int32)), (.int (3 : Int32))]) rfl (rC5U_3_1 l Z a0 hw [] xa o8 xk k8 xc0 xc1 xc2 h Oh (Nat.le_trans O0.1 ge_o8) ne_xa_o8 V_xa V_o8 hle0 hgt) (W := 0) (by decide) hml (Ls := #[rv xa, iv 0, iv 3, rv o8, uu, uu]) rfl (rest := []) rfl rfl hby d7_9
    obtain ⟨rfl, K9⟩ := hQ
    have K := K.call K9 (allS (Or.inr ge_o8) all0)
    refine oWk.to (mkF m 22 #[rv xa, iv 0, iv 3, rv o8, iv 1, uu] [(.int 0), (.ref xa)]) (fun _ kt => st _ (zS X hx hby d7_12 rfl rfl (l' := #[rv xa, iv 0, iv 3, rv o8, iv 1, uu]) rfl (zJ X hx hby d7_14 rfl rfl (zI X hx hby d7_16 rfl rfl (zN X hx hby d7_17 rfl rfl (feq (by decide)).1 (zA X hx hby d7_20 rfl rfl rfl (zI X hx hby d7_21 rfl rfl kt))))))) ?_
    refine oWk.st (fun _ kt => zI X hx hby d7_22 rfl rfl kt) ?_
    have V_xa := (V_xa.keep K9.1 (ninS ne_xa_o8 nin0))
    have lt_xa := V_xa.lt
    have Oh := K.old O0 all0
    obtain ⟨_, T, h, Lc12, X, e0, hQ, st⟩ := (cs8 hw).run X hx hZ hown e0 (A := [(.ref xa), (.int (0 : Int32)), (.int (3 : Int32))]) rfl (rTBU_3 l Z a0 hw [] xa xk xc0 xc1 xc2 h Oh S__assertionsDisabled S_HI_BYTE_SHIFT S_LO_BYTE_SHIFT V_xa) (W := 0) (by decide) hml (Ls := #[rv xa, iv 0, iv 3, rv o8, iv 1, uu]) rfl (rest := []) rfl rfl hby d7_23
    obtain ⟨nb11, nk11, rfl, K11, gn_nb11, V_nb11⟩ := hQ
    have ge_nb11 := Nat.le_trans K.le gn_nb11
    have ne_xa_nb11 : xa ≠ nb11 := Nat.ne_of_lt (Nat.lt_of_lt_of_le lt_xa gn_nb11)
    have K := K.call K11 all0
    refine oWk.st (fun _ kt => st _ (zT X hx hby d7_26 rfl rfl rfl (l' := #[rv xa, iv 0, iv 3, rv o8, iv 1, rv nb11]) rfl (zB X hx hby d7_28 rfl rfl rfl (zJ X hx hby d7_30 rfl rfl kt)))) ?_
    have Oh := K.old O0 all0
    obtain ⟨T, L14, X, e0, K, st⟩ := (cs9 hw).pure X hx hZ hown e0 K (A := [(.ref nb11), (.int (1 : Int32))]) rfl (rGC_3_1 l Z a0 hw [] nb11 nk11 xc0 xc1 xc2 h Oh S__assertionsDisabled S_HI_BYTE_SHIFT S_LO_BYTE_SHIFT hr1 V_nb11) (fun _ _ _ q => q) (W := 0) (by decide) hml (Ls := #[rv xa, iv 0, iv 3, rv o8, iv 1, rv nb11]) rfl (rest := []) rfl rfl hby d7_32
    refine oWk.to (mkF m 56 #[rv xa, iv 0, iv 3, rv o8, iv 1, rv nb11] [(.ref nb11)]) (fun _ kt => st _ (zM X hx hby d7_35 rfl (zY X hx hby d7_38 rfl rfl (tlt hgt).2.2.1 (pc' := 54) rfl (zB X hx hby d7_54 rfl rfl rfl kt)))) ?_
    exact oRetA X hx hlk hret rfl rfl (hb hby d7_56) (by rw [e0]; exact ⟨nb11, nk11, rfl, K, ge_nb11, V_nb11⟩) (by decide) (by decide)
  · show oWk _ _ _ _ T (mkF m 0 #[rv xa, iv 0, iv 3, uu, uu, uu] [])
    refine oWk.st (fun _ kt => zI X hx hby d7_0 rfl rfl kt) ?_
    obtain ⟨o15, g15⟩ : ∃ z, z = h0.size := ⟨_, rfl⟩
    have ne_xa_o15 : xa ≠ o15 := Nat.ne_of_lt (Nat.lt_of_lt_of_le V_xa.lt (Nat.le_of_eq g15.symm))
    have ge_o15 : h0.size ≤ o15 := Nat.le_trans K.le (Nat.le_of_eq g15.symm)
    obtain ⟨T, h, k15, X, e0, E15, A15, st⟩ := newP X hx hZ (oW hw 17 rfl) e0 (g := (mkF m 1 #[rv xa, iv 0, iv 3, uu, uu, uu] [(.int 3)])) rfl (hb hby d7_1) rfl (by decide) (cap := 3) (by decide) (by decide) (by decide) (by decide)
    rw [← g15] at A15 st
    have K := K.ext E15
    have V_o15 : Arv Z h o15 k15 .byte (3 : Int32) [(.int (0 : Int32)), (.int (0 : Int32)), (.int (0 : Int32))] (.int (0 : Int32)) := (Arv.new A15 (by decide)).pad (pad_rep [] (.int (0 : Int32)) 3)
    refine oWk.to (mkF m 9 #[rv xa, iv 0, iv 3, rv o15, uu, uu] [(.int 3), (.int 0), (.ref o15), (.int 0), (.ref xa)]) (fun _ kt => st _ (zTn X hx hby d7_3 rfl rfl rfl (l' := #[rv xa, iv 0, iv 3, rv o15, uu, uu]) rfl (zA X hx hby d7_4 rfl rfl rfl (zI X hx hby d7_5 rfl rfl (zA X hx hby d7_6 rfl rfl rfl (zK X hx hby d7_7 rfl (zI X hx hby d7_8 rfl rfl kt))))))) ?_
    have V_xa := (V_xa.ext E15)
    have Oh := K.old O0 all0
    obtain ⟨_, T, h, Lc17, X, e0, hQ, st⟩ := (cs1 hw).run X hx hZ hown e0 (A := [(.ref xa), (.int (0 : Int32)), (.ref o15), (.int (0 : Int32)), (.int (3 : Int32))]) rfl (rC5U_3_2 l Z a0 hw [] xa o15 xk k15 xc0 xc1 xc2 h Oh (Nat.le_trans O0.1 ge_o15) ne_xa_o15 V_xa V_o15 hle0 hle1 hgt) (W := 0) (by decide) hml (Ls := #[rv xa, iv 0, iv 3, rv o15, uu, uu]) rfl (rest := []) rfl rfl hby d7_9
    obtain ⟨rfl, K16⟩ := hQ
    have K := K.call K16 (allS (Or.inr ge_o15) all0)
    refine oWk.to (mkF m 22 #[rv xa, iv 0, iv 3, rv o15, iv 2, uu] [(.int 0), (.ref xa)]) (fun _ kt => st _ (zS X hx hby d7_12 rfl rfl (l' := #[rv xa, iv 0, iv 3, rv o15, iv 2, uu]) rfl (zJ X hx hby d7_14 rfl rfl (zI X hx hby d7_16 rfl rfl (zN X hx hby d7_17 rfl rfl (feq (by decide)).1 (zA X hx hby d7_20 rfl rfl rfl (zI X hx hby d7_21 rfl rfl kt))))))) ?_
    refine oWk.st (fun _ kt => zI X hx hby d7_22 rfl rfl kt) ?_
    have V_xa := (V_xa.keep K16.1 (ninS ne_xa_o15 nin0))
    have lt_xa := V_xa.lt
    have Oh := K.old O0 all0
    obtain ⟨_, T, h, Lc19, X, e0, hQ, st⟩ := (cs8 hw).run X hx hZ hown e0 (A := [(.ref xa), (.int (0 : Int32)), (.int (3 : Int32))]) rfl (rTBU_3 l Z a0 hw [] xa xk xc0 xc1 xc2 h Oh S__assertionsDisabled S_HI_BYTE_SHIFT S_LO_BYTE_SHIFT V_xa) (W := 0) (by decide) hml (Ls := #[rv xa, iv 0, iv 3, rv o15, iv 2, uu]) rfl (rest := []) rfl rfl hby d7_23
    obtain ⟨nb18, nk18, rfl, K18, gn_nb18, V_nb18⟩ := hQ
    have ge_nb18 := Nat.le_trans K.le gn_nb18
    have ne_xa_nb18 : xa ≠ nb18 := Nat.ne_of_lt (Nat.lt_of_lt_of_le lt_xa gn_nb18)
    have K := K.call K18 all0
    refine oWk.st (fun _ kt => st _ (zT X hx hby d7_26 rfl rfl rfl (l' := #[rv xa, iv 0, iv 3, rv o15, iv 2, rv nb18]) rfl (zB X hx hby d7_28 rfl rfl rfl (zJ X hx hby d7_30 rfl rfl kt)))) ?_
    have Oh := K.old O0 all0
    obtain ⟨T, L21, X, e0, K, st⟩ := (cs9 hw).pure X hx hZ hown e0 K (A := [(.ref nb18), (.int (2 : Int32))]) rfl (rGC_3_2 l Z a0 hw [] nb18 nk18 xc0 xc1 xc2 h Oh S__assertionsDisabled S_HI_BYTE_SHIFT S_LO_BYTE_SHIFT hr2 V_nb18) (fun _ _ _ q => q) (W := 0) (by decide) hml (Ls := #[rv xa, iv 0, iv 3, rv o15, iv 2, rv nb18]) rfl (rest := []) rfl rfl hby d7_32
    refine oWk.to (mkF m 56 #[rv xa, iv 0, iv 3, rv o15, iv 2, rv nb18] [(.ref nb18)]) (fun _ kt => st _ (zM X hx hby d7_35 rfl (zY X hx hby d7_38 rfl rfl (tlt hgt).2.2.1 (pc' := 54) rfl (zB X hx hby d7_54 rfl rfl rfl kt)))) ?_
    exact oRetA X hx hlk hret rfl rfl (hb hby d7_56) (by rw [e0]; exact ⟨nb18, nk18, rfl, K, ge_nb18, V_nb18⟩) (by decide) (by decide)
def Q_rCoU_3 (Z : State) (xb : Addr) (xk : ClassId) (xc0 xc1 xc2 : Int32) (h0 : Heap) (v : Option Value) (h : Heap) (L : List Loc) : Prop := v = some (.int (1 : Int32)) ∧ h = h0 ∧ oKp h0 h [] L
theorem rCoU_3 (l : Launch) (Z : State) (a0 : Array Value) (hw : oHW a0 Z) (ws : List Jvm.Cond) (xb : Addr) (xk : ClassId) (xc0 xc1 xc2 : Int32) (h0 : Heap) (O0 : Ext Z.heap h0) (V_xb : Arv Z h0 xb xk .byte (6 : Int32) [(iu0 xc0), (iu8 xc0), (iu0 xc1), (iu8 xc1), (iu0 xc2), (iu8 xc2)] (.int (0 : Int32))) :
    oCon l Z yy7 jdk_52_method_15_code 2 (some .byte) ws ({ frames := 0, cells := 0, slots := 0, locals := 0 } : Room) #[(.ref xb), (.int (3 : Int32))] h0 (Q_rCoU_3 Z xb xk xc0 xc1 xc2 h0) := by
  refine oCon.of (plainFor_of_name pn_3) ?_
  intro p e s m below meth c T X hx hby hml hown hnm hret hlk hZ e0
  have hml : c.maxLocals = 2 := hml
  have K : oKp h0 h0 [] [] := oKp.nil _ _
  refine oWk.cast (g' := (mkF m 0 #[rv xb, iv 3] [])) (by first | rfl | (simp [entryFrame, mkF, argsToLocals, Value.category]; done)) ?_
  refine oWk.to (mkF m 8 #[rv xb, iv 3] [(.int 1)]) (fun _ kt => zI X hx hby d9_0 rfl rfl (zA X hx hby d9_1 rfl rfl rfl (oAl X hx hZ e0 V_xb hby d9_2 rfl rfl (XS.isub X.here hx rfl (hb hby d9_3) rfl (zL X hx hby d9_4 rfl (XS.iushr X.here hx rfl (hb hby d9_6) rfl (XS.i2b X.here hx rfl (hb hby d9_7) rfl kt))))))) ?_
  exact oRetN X hx hlk hret (Or.inl rfl) rfl (hb hby d9_8) (by rw [e0]; exact ⟨rfl, rfl, K⟩) (by decide) (by decide)
def Q_rI4U_3 (Z : State) (xs xa : Addr) (xk : ClassId) (xz : Int32) (xu xv : Value) (xc0 xc1 xc2 : Int32) (h0 : Heap) (v : Option Value) (h : Heap) (L : List Loc) : Prop := ∃ (nb : Addr) (nk : ClassId), v = none ∧ oKp h0 h [xs] L ∧ (Exa Z h xs Y0) ∧ (Fld Z h xs Y0 "coder" "B" (.int (1 : Int32))) ∧ (Fld Z h xs Y0 "value" "[B" (.ref nb)) ∧ (h0.size ≤ nb) ∧ (Arv Z h nb nk .byte (6 : Int32) [(iu0 xc0), (iu8 xc0), (iu0 xc1), (iu8 xc1), (iu0 xc2), (iu8 xc2)] (.int (0 : Int32)))
theorem rI4U_3 (l : Launch) (Z : State) (a0 : Array Value) (hw : oHW a0 Z) (ws : List Jvm.Cond) (xs xa : Addr) (xk : ClassId) (xz : Int32) (xu xv : Value) (xc0 xc1 xc2 : Int32) (h0 : Heap) (O0 : Ext Z.heap h0) (S_COMPACT_STRINGS : Sta Z Z.heap Y0 Y6 "Z" (.int xz)) (hz : ¬ xz = (0 : Int32)) (S__assertionsDisabled : Sta Z Z.heap Y1 Y3 "Z" (.int (1 : Int32))) (S_HI_BYTE_SHIFT : Sta Z Z.heap Y1 "HI_BYTE_SHIFT" "I" (.int (0 : Int32))) (S_LO_BYTE_SHIFT : Sta Z Z.heap Y1 "LO_BYTE_SHIFT" "I" (.int (8 : Int32))) (og_xs : Z.heap.size ≤ xs) (E_xs : Exa Z h0 xs Y0) (F_value_xs : Fld Z h0 xs Y0 "value" "[B" xu) (F_coder_xs : Fld Z h0 xs Y0 "coder" "B" xv) (V_xa : Arv Z h0 xa xk .char (3 : Int32) [(.int xc0), (.int xc1), (.int xc2)] (.int (0 : Int32))) (hr0 : 0 ≤ xc0.toInt ∧ xc0.toInt < 65536) (hr1 : 0 ≤ xc1.toInt ∧ xc1.toInt < 65536) (hr2 : 0 ≤ xc2.toInt ∧ xc2.toInt < 65536) (hU : ((255 : Int32) < xc0) ∨ (¬ (255 : Int32) < xc0 ∧ (255 : Int32) < xc1) ∨ (¬ (255 : Int32) < xc0 ∧ ¬ (255 : Int32) < xc1 ∧ (255 : Int32) < xc2)) :
    oCon l Z yy3 jdk_42_method_149_code 6 none ws ({ frames := 4, cells := 2, slots := 9, locals := 57 } : Room) #[(.ref xs), (.ref xa), (.int (0 : Int32)), (.int (3 : Int32)), .null] h0 (Q_rI4U_3 Z xs xa xk xz xu xv xc0 xc1 xc2 h0) := by
  refine oCon.of (plainFor_of_name pn_2) ?_
  intro p e s m below meth c T X hx hby hml hown hnm hret hlk hZ e0
  have hml : c.maxLocals = 6 := hml
  have K : oKp h0 h0 [xs] [] := oKp.nil _ _
  refine oWk.cast (g' := (mkF m 0 #[rv xs, rv xa, iv 0, iv 3, .val .null, uu] [])) (by first | rfl | (simp [entryFrame, mkF, argsToLocals, Value.category]; done)) ?_
  refine oWk.st (fun _ kt => zA X hx hby d2_0 rfl rfl rfl kt) ?_
  obtain ⟨T, X, e0, st⟩ := initO X hx hZ hown (oW hw 13 rfl) (oW hw 14 rfl) (oW hw 15 rfl) e0 (g := (mkF m 1 #[rv xs, rv xa, iv 0, iv 3, .val .null, uu] [(.ref xs)])) rfl (by rw [hml]; rfl) rfl (hb hby d2_1) (by decide) (W := 0) (Nat.le_of_eq rfl) (by decide)
  refine oWk.st (fun _ kt => st _ (zI X hx hby d2_4 rfl rfl (zF X hx hby d2_5 rfl rfl ((if0 _ _).trans (feq (by decide)).2) (pc' := 27) rfl kt))) ?_
  have Oh := K.old O0 (allS og_xs all0)
  obtain ⟨T, X, e0, st⟩ := getS2 X hx hZ hown (host := "") (Or.inl (oW hw 37 rfl)) Via.refl e0 (S_COMPACT_STRINGS.ext Oh) (g := (mkF m 27 #[rv xs, rv xa, iv 0, iv 3, .val .null, uu] [])) rfl (hb hby d2_27)
  refine oWk.st (fun _ kt => st _ (zH X hx hby d2_30 rfl rfl ((if0 _ _).trans (feq hz).1) (zA X hx hby d2_33 rfl rfl rfl (zI X hx hby d2_34 rfl rfl (zI X hx hby d2_35 rfl rfl kt))))) ?_
  have lt_xs := E_xs.lt
  have lt_xa := V_xa.lt
  obtain ⟨_, T, h, Lc2, X, e0, hQ, st⟩ := (cs2 hw).run X hx hZ hown e0 (A := [(.ref xa), (.int (0 : Int32)), (.int (3 : Int32))]) rfl (rC3U_3 l Z a0 hw [] xa xk xc0 xc1 xc2 h0 Oh S__assertionsDisabled S_HI_BYTE_SHIFT S_LO_BYTE_SHIFT V_xa hr0 hr1 hr2 hU) (W := 0) (by decide) hml (Ls := #[rv xs, rv xa, iv 0, iv 3, .val .null, uu]) rfl (rest := []) rfl rfl hby d2_36
  obtain ⟨nb1, nk1, rfl, K1, gn_nb1, V_nb1⟩ := hQ
  have ge_nb1 := Nat.le_trans K.le gn_nb1
  have ne_xs_nb1 : xs ≠ nb1 := Nat.ne_of_lt (Nat.lt_of_lt_of_le lt_xs gn_nb1)
  have ne_xa_nb1 : xa ≠ nb1 := Nat.ne_of_lt (Nat.lt_of_lt_of_le lt_xa gn_nb1)
  have K := K.call K1 all0
  refine oWk.st (fun _ kt => st _ (zT X hx hby d2_39 rfl rfl rfl (l' := #[rv xs, rv xa, iv 0, iv 3, .val .null, rv nb1]) rfl (zA X hx hby d2_41 rfl rfl rfl (zB X hx hby d2_42 rfl rfl rfl (zI X hx hby d2_44 rfl rfl kt))))) ?_
  have Oh := K.old O0 (allS og_xs all0)
  obtain ⟨T, L4, X, e0, K, st⟩ := (cs3 hw).pure X hx hZ hown e0 K (A := [(.ref nb1), (.int (3 : Int32))]) rfl (rCoU_3 l Z a0 hw [] nb1 nk1 xc0 xc1 xc2 h Oh V_nb1) (fun _ _ _ q => q) (W := 1) (by decide) hml (Ls := #[rv xs, rv xa, iv 0, iv 3, .val .null, rv nb1]) rfl (rest := [(.ref xs)]) rfl rfl hby d2_45
  refine oWk.st (fun _ kt => st _ kt) ?_
  have E_xs := (E_xs.keep K1.1)
  have F_coder_xs := (F_coder_xs.keep K1.1 nin0)
  obtain ⟨T, h, X, e0, W5, st⟩ := putFN X hx hZ hown (oW hw 23 rfl) Via.refl e0 F_coder_xs E_xs (Or.inr ⟨(oW hw 19 rfl), rfl, hnm⟩) (oW hw 4 rfl) (ty := .byte) (v' := .int (1 : Int32)) (by decide) rfl (by decide) (g := (mkF m 48 #[rv xs, rv xa, iv 0, iv 3, .val .null, rv nb1] [(.int 1), (.ref xs)])) rfl rfl (hb hby d2_48)
  have K := K.wr W5 (Or.inl (List.mem_of_getElem? (i := 0) rfl))
  have F_coder_xs := F_coder_xs.same W5
  refine oWk.st (fun _ kt => st _ (zA X hx hby d2_51 rfl rfl rfl (zB X hx hby d2_52 rfl rfl rfl kt))) ?_
  have E_xs := (E_xs.wr W5)
  have F_value_xs := ((F_value_xs.keep K1.1 nin0).other W5 (Or.inr (slot_ne (Or.inr (oW hw 18 rfl)) (Or.inr (oW hw 19 rfl)) (by decide) (t := (.array .byte)) (t' := .byte) (by decide) (by decide))))
  obtain ⟨T, h, X, e0, W6, st⟩ := putF X hx hZ hown (host := "") (Or.inl (oW hw 22 rfl)) Via.refl e0 F_value_xs E_xs (Or.inr ⟨(oW hw 18 rfl), rfl, hnm⟩) (oW hw 4 rfl) (ty := (.array .byte)) (by decide) rfl rfl (g := (mkF m 54 #[rv xs, rv xa, iv 0, iv 3, .val .null, rv nb1] [(.ref nb1), (.ref xs)])) rfl rfl (hb hby d2_54)
  have K := K.wr W6 (Or.inl (List.mem_of_getElem? (i := 0) rfl))
  have F_value_xs := F_value_xs.same W6
  refine oWk.to (mkF m 57 #[rv xs, rv xa, iv 0, iv 3, .val .null, rv nb1] []) (fun _ kt => st _ kt) ?_
  have E_xs := (E_xs.wr W6)
  have F_coder_xs := (F_coder_xs.other W6 (Or.inr (slot_ne (Or.inr (oW hw 19 rfl)) (Or.inr (oW hw 18 rfl)) (by decide) (t := .byte) (t' := (.array .byte)) (by decide) (by decide))))
  have V_nb1 := ((V_nb1.other W5 (Ne.symm ne_xs_nb1)).other W6 (Ne.symm ne_xs_nb1))
  exact oRetV X hx hlk hret (hb hby d2_57) (by rw [e0]; exact ⟨nb1, nk1, rfl, K, E_xs, F_coder_xs, F_value_xs, ge_nb1, V_nb1⟩) (by decide) (by decide)
def Q_rI1U_3 (Z : State) (xs xa : Addr) (xk : ClassId) (xz : Int32) (xu xv : Value) (xc0 xc1 xc2 : Int32) (h0 : Heap) (v : Option Value) (h : Heap) (L : List Loc) : Prop := ∃ (nb : Addr) (nk : ClassId), v = none ∧ oKp h0 h [xs] L ∧ (Exa Z h xs Y0) ∧ (Fld Z h xs Y0 "coder" "B" (.int (1 : Int32))) ∧ (Fld Z h xs Y0 "value" "[B" (.ref nb)) ∧ (h0.size ≤ nb) ∧ (Arv Z h nb nk .byte (6 : Int32) [(iu0 xc0), (iu8 xc0), (iu0 xc1), (iu8 xc1), (iu0 xc2), (iu8 xc2)] (.int (0 : Int32)))
theorem rI1U_3 (l : Launch) (Z : State) (a0 : Array Value) (hw : oHW a0 Z) (ws : List Jvm.Cond) (xs xa : Addr) (xk : ClassId) (xz : Int32) (xu xv : Value) (xc0 xc1 xc2 : Int32) (h0 : Heap) (O0 : Ext Z.heap h0) (S_COMPACT_STRINGS : Sta Z Z.heap Y0 Y6 "Z" (.int xz)) (hz : ¬ xz = (0 : Int32)) (S__assertionsDisabled : Sta Z Z.heap Y1 Y3 "Z" (.int (1 : Int32))) (S_HI_BYTE_SHIFT : Sta Z Z.heap Y1 "HI_BYTE_SHIFT" "I" (.int (0 : Int32))) (S_LO_BYTE_SHIFT : Sta Z Z.heap Y1 "LO_BYTE_SHIFT" "I" (.int (8 : Int32))) (og_xs : Z.heap.size ≤ xs) (E_xs : Exa Z h0 xs Y0) (F_value_xs : Fld Z h0 xs Y0 "value" "[B" xu) (F_coder_xs : Fld Z h0 xs Y0 "coder" "B" xv) (V_xa : Arv Z h0 xa xk .char (3 : Int32) [(.int xc0), (.int xc1), (.int xc2)] (.int (0 : Int32))) (hr0 : 0 ≤ xc0.toInt ∧ xc0.toInt < 65536) (hr1 : 0 ≤ xc1.toInt ∧ xc1.toInt < 65536) (hr2 : 0 ≤ xc2.toInt ∧ xc2.toInt < 65536) (hU : ((255 : Int32) < xc0) ∨ (¬ (255 : Int32) < xc0 ∧ (255 : Int32) < xc1) ∨ (¬ (255 : Int32) < xc0 ∧ ¬ (255 : Int32) < xc1 ∧ (255 : Int32) < xc2)) :
    oCon l Z yy4 jdk_42_method_3_code 2 none ws ({ frames := 5, cells := 2, slots := 9, locals := 74 } : Room) #[(.ref xs), (.ref xa)] h0 (Q_rI1U_3 Z xs xa xk xz xu xv xc0 xc1 xc2 h0) := by
  refine oCon.of (plainFor_of_name pn_2) ?_
  intro p e s m below meth c T X hx hby hml hown hnm hret hlk hZ e0
  have hml : c.maxLocals = 2 := hml
  have K : oKp h0 h0 [xs] [] := oKp.nil _ _
  refine oWk.cast (g' := (mkF m 0 #[rv xs, rv xa] [])) (by first | rfl | (simp [entryFrame, mkF, argsToLocals, Value.category]; done)) ?_
  refine oWk.st (fun _ kt => zA X hx hby d1_0 rfl rfl rfl (zA X hx hby d1_1 rfl rfl rfl (zK X hx hby d1_2 rfl (zA X hx hby d1_3 rfl rfl rfl (oAl X hx hZ e0 V_xa hby d1_4 rfl rfl (XS.aconstNull X.here hx rfl (hb hby d1_5) kt)))))) ?_
  have lt_xs := E_xs.lt
  have lt_xa := V_xa.lt
  have Oh := K.old O0 (allS og_xs all0)
  obtain ⟨_, T, h, Lc3, X, e0, hQ, st⟩ := (cs4 hw).run X hx hZ hown e0 (A := [(.ref xs), (.ref xa), (.int (0 : Int32)), (.int (3 : Int32)), .null]) ⟨rfl, _, _, rfl⟩ (rI4U_3 l Z a0 hw [] xs xa xk xz xu xv xc0 xc1 xc2 h0 Oh S_COMPACT_STRINGS hz S__assertionsDisabled S_HI_BYTE_SHIFT S_LO_BYTE_SHIFT og_xs E_xs F_value_xs F_coder_xs V_xa hr0 hr1 hr2 hU) (W := 0) (by decide) hml (Ls := #[rv xs, rv xa]) rfl (rest := []) rfl rfl hby d1_6
  obtain ⟨nb2, nk2, rfl, K2, E_xs, F_coder_xs, F_value_xs, gn_nb2, V_nb2⟩ := hQ
  have ge_nb2 := Nat.le_trans K.le gn_nb2
  have ne_xs_nb2 : xs ≠ nb2 := Nat.ne_of_lt (Nat.lt_of_lt_of_le lt_xs gn_nb2)
  have ne_xa_nb2 : xa ≠ nb2 := Nat.ne_of_lt (Nat.lt_of_lt_of_le lt_xa gn_nb2)
  have K := K.call K2 (allS (Or.inl (List.mem_of_getElem? (i := 0) rfl)) all0)
  refine oWk.to (mkF m 9 #[rv xs, rv xa] []) (fun _ kt => st _ kt) ?_
  exact oRetV X hx hlk hret (hb hby d1_9) (by rw [e0]; exact ⟨nb2, nk2, rfl, K, E_xs, F_coder_xs, F_value_xs, ge_nb2, V_nb2⟩) (by decide) (by decide)
def Q_rC5U_4_0 (Z : State) (xa xd : Addr) (xk xl : ClassId) (xc0 xc1 xc2 xc3 : Int32) (h0 : Heap) (v : Option Value) (h : Heap) (L : List Loc) : Prop := v = some (.int (0 : Int32)) ∧ oKp h0 h [xd] L
theorem rC5U_4_0 (l : Launch) (Z : State) (a0 : Array Value) (hw : oHW a0 Z) (ws : List Jvm.Cond) (xa xd : Addr) (xk xl : ClassId) (xc0 xc1 xc2 xc3 : Int32) (h0 : Heap) (O0 : Ext Z.heap h0) (og_xd : Z.heap.size ≤ xd) (ne_xa_xd : xa ≠ xd) (V_xa : Arv Z h0 xa xk .char (4 : Int32) [(.int xc0), (.int xc1), (.int xc2), (.int xc3)] (.int (0 : Int32))) (V_xd : Arv Z h0 xd xl .byte (4 : Int32) [(.int (0 : Int32)), (.int (0 : Int32)), (.int (0 : Int32)), (.int (0 : Int32))] (.int (0 : Int32))) (hgt : (255 : Int32) < xc0) :
    oCon l Z yy5 jdk_52_method_21_code 7 (some .int) ws ({ frames := 0, cells := 0, slots := 0, locals := 0 } : Room) #[(.ref xa), (.int (0 : Int32)), (.ref xd), (.int (0 : Int32)), (.int (4 : Int32))] h0 (Q_rC5U_4_0 Z xa xd xk xl xc0 xc1 xc2 xc3 h0) := by
  refine oCon.of (plainFor_of_name pn_3) ?_
  intro p e s m below meth c T X hx hby hml hown hnm hret hlk hZ e0
  have hml : c.maxLocals = 7 := hml
  have K : oKp h0 h0 [xd] [] := oKp.nil _ _
  refine oWk.cast (g' := (mkF m 0 #[rv xa, iv 0, rv xd, iv 0, iv 4, uu, uu] [])) (by first | rfl | (simp [entryFrame, mkF, argsToLocals, Value.category]; done)) ?_
  refine oWk.to (mkF m 12 #[rv xa, iv 0, rv xd, iv 0, iv 4, iv 0, uu] [(.int 0), (.ref xa)]) (fun _ kt => zK X hx hby d8_0 rfl (zS X hx hby d8_1 rfl rfl (l' := #[rv xa, iv 0, rv xd, iv 0, iv 4, iv 0, uu]) rfl (zJ X hx hby d8_3 rfl rfl (zJ X hx hby d8_5 rfl rfl (zN X hx hby d8_7 rfl rfl (tlt (by decide)).2.1 (zA X hx hby d8_10 rfl rfl rfl (zI X hx hby d8_11 rfl rfl kt))))))) ?_
  refine oWk.to (mkF m 20 #[rv xa, iv 0, rv xd, iv 0, iv 4, iv 0, iv xc0] [(.int 255), (.int xc0)]) (fun _ kt => oLdC X hx hZ e0 V_xa (0 : Int32) (.int xc0) ⟨by decide, by decide⟩ rfl hby d8_12 rfl rfl (zS X hx hby d8_13 rfl rfl (l' := #[rv xa, iv 0, rv xd, iv 0, iv 4, iv 0, iv xc0]) rfl (zJ X hx hby d8_15 rfl rfl (zM X hx hby d8_17 rfl kt)))) ?_
  refine oWk.to (mkF m 25 #[rv xa, iv 0, rv xd, iv 0, iv 4, iv 0, iv xc0] [(.int 0)]) (fun _ kt => zN X hx hby d8_20 rfl rfl (tlt hgt).2.2.2 (zJ X hx hby d8_23 rfl rfl kt)) ?_
  exact oRetI X hx hlk hret (hb hby d8_25) (by rw [e0]; exact ⟨rfl, K⟩) (by decide) (by decide)
def Q_rC5U_4_1 (Z : State) (xa xd : Addr) (xk xl : ClassId) (xc0 xc1 xc2 xc3 : Int32) (h0 : Heap) (v : Option Value) (h : Heap) (L : List Loc) : Prop := v = some (.int (1 : Int32)) ∧ oKp h0 h [xd] L
theorem rC5U_4_1 (l : Launch) (Z : State) (a0 : Array Value) (hw : oHW a0 Z) (ws : List Jvm.Cond) (xa xd : Addr) (xk xl : ClassId) (xc0 xc1 xc2 xc3 : Int32) (h0 : Heap) (O0 : Ext Z.heap h0) (og_xd : Z.heap.size ≤ xd) (ne_xa_xd : xa ≠ xd) (V_xa : Arv Z h0 xa xk .char (4 : Int32) [(.int xc0), (.int xc1), (.int xc2), (.int xc3)] (.int (0 : Int32))) (V_xd : Arv Z h0 xd xl .byte (4 : Int32) [(.int (0 : Int32)), (.int (0 : Int32)), (.int (0 : Int32)), (.int (0 : Int32))] (.int (0 : Int32))) (hle0 : ¬ (255 : Int32) < xc0) (hgt : (255 : Int32) < xc1) :
    oCon l Z yy5 jdk_52_method_21_code 7 (some .int) ws ({ frames := 0, cells := 0, slots := 0, locals := 0 } : Room) #[(.ref xa), (.int (0 : Int32)), (.ref xd), (.int (0 : Int32)), (.int (4 : Int32))] h0 (Q_rC5U_4_1 Z xa xd xk xl xc0 xc1 xc2 xc3 h0) := by
  refine oCon.of (plainFor_of_name pn_3) ?_
  intro p e s m below meth c T X hx hby hml hown hnm hret hlk hZ e0
  have hml : c.maxLocals = 7 := hml
  have K : oKp h0 h0 [xd] [] := oKp.nil _ _
  refine oWk.cast (g' := (mkF m 0 #[rv xa, iv 0, rv xd, iv 0, iv 4, uu, uu] [])) (by first | rfl | (simp [entryFrame, mkF, argsToLocals, Value.category]; done)) ?_
  refine oWk.to (mkF m 12 #[rv xa, iv 0, rv xd, iv 0, iv 4, iv 0, uu] [(.int 0), (.ref xa)]) (fun _ kt => zK X hx hby d8_0 rfl (zS X hx hby d8_1 rfl rfl (l' := #[rv xa, iv 0, rv xd, iv 0, iv 4, iv 0, uu]) rfl (zJ X hx hby d8_3 rfl rfl (zJ X hx hby d8_5 rfl rfl (zN X hx hby d8_7 rfl rfl (tlt (by decide)).2.1 (zA X hx hby d8_10 rfl rfl rfl (zI X hx hby d8_11 rfl rfl kt))))))) ?_
  refine oWk.to (mkF m 20 #[rv xa, iv 0, rv xd, iv 0, iv 4, iv 0, iv xc0] [(.int 255), (.int xc0)]) (fun _ kt => oLdC X hx hZ e0 V_xa (0 : Int32) (.int xc0) ⟨by decide, by decide⟩ rfl hby d8_12 rfl rfl (zS X hx hby d8_13 rfl rfl (l' := #[rv xa, iv 0, rv xd, iv 0, iv 4, iv 0, iv xc0]) rfl (zJ X hx hby d8_15 rfl rfl (zM X hx hby d8_17 rfl kt)))) ?_
  refine oWk.to (mkF m 31 #[rv xa, iv 0, rv xd, iv 0, iv 4, iv 0, iv xc0] [(ib xc0), (.int 0), (.ref xd)]) (fun _ kt => zY X hx hby d8_20 rfl rfl (flt hle0).2.2.2 (pc' := 26) rfl (zA X hx hby d8_26 rfl rfl rfl (zI X hx hby d8_27 rfl rfl (zJ X hx hby d8_28 rfl rfl (XS.i2b X.here hx rfl (hb hby d8_30) rfl kt))))) ?_
  obtain ⟨cl2, Ar2, q2, Sz2, Nn2, Hs2, Ft2⟩ := id V_xd
  have hin2 : ¬ ((0 : Int32) < 0 ∨ cl2.slots.size ≤ ((0 : Int32)).toNatClampNeg) := inb_of Sz2 ⟨by decide, by decide⟩
  obtain ⟨T, h, X, e0, W2, st⟩ := stB X hx hZ e0 Ar2 (j := (0 : Int32)) hin2 (g := (mkF m 31 #[rv xa, iv 0, rv xd, iv 0, iv 4, iv 0, iv xc0] [(ib xc0), (.int 0), (.ref xd)])) rfl rfl (hb hby d8_31)
  have K := K.wr W2 (Or.inl (List.mem_of_getElem? (i := 0) rfl))
  have V_xd := Arv.set Ar2 q2 Sz2 Nn2 Hs2 Ft2 (fits_nar_byte _) W2 0 rfl (Nat.le_of_ble_eq_true rfl)
  rw [oB8 xc0] at V_xd
  replace V_xd : Arv Z h xd xl .byte (4 : Int32) [(ib xc0), (.int (0 : Int32)), (.int (0 : Int32)), (.int (0 : Int32))] (.int (0 : Int32)) := V_xd
  refine oWk.to (mkF m 7 #[rv xa, iv 1, rv xd, iv 1, iv 4, iv 1, iv xc0] [(.int 4), (.int 1)]) (fun _ kt => st _ (zC X hx hby d8_32 rfl rfl (l' := #[rv xa, iv ((0 : Int32) + (1 : Int32)), rv xd, iv 0, iv 4, iv 0, iv xc0]) rfl (zC X hx hby d8_35 rfl rfl (l' := #[rv xa, iv 1, rv xd, iv ((0 : Int32) + (1 : Int32)), iv 4, iv 0, iv xc0]) rfl (zC X hx hby d8_38 rfl rfl (l' := #[rv xa, iv 1, rv xd, iv 1, iv 4, iv ((0 : Int32) + (1 : Int32)), iv xc0]) rfl (zG X hx hby d8_41 rfl (pc' := 3) rfl (zJ X hx hby d8_3 rfl rfl (zJ X hx hby d8_5 rfl rfl kt))))))) ?_
  refine oWk.st (fun _ kt => zN X hx hby d8_7 rfl rfl (tlt (by decide)).2.1 (zA X hx hby d8_10 rfl rfl rfl (zI X hx hby d8_11 rfl rfl kt))) ?_
  have V_xa := (V_xa.other W2 ne_xa_xd)
  refine oWk.to (mkF m 20 #[rv xa, iv 1, rv xd, iv 1, iv 4, iv 1, iv xc1] [(.int 255), (.int xc1)]) (fun _ kt => oLdC X hx hZ e0 V_xa (1 : Int32) (.int xc1) ⟨by decide, by decide⟩ rfl hby d8_12 rfl rfl (zS X hx hby d8_13 rfl rfl (l' := #[rv xa, iv 1, rv xd, iv 1, iv 4, iv 1, iv xc1]) rfl (zJ X hx hby d8_15 rfl rfl (zM X hx hby d8_17 rfl kt)))) ?_
  refine oWk.to (mkF m 25 #[rv xa, iv 1, rv xd, iv 1, iv 4, iv 1, iv xc1] [(.int 1)]) (fun _ kt => zN X hx hby d8_20 rfl rfl (tlt hgt).2.2.2 (zJ X hx hby d8_23 rfl rfl kt)) ?_
  exact oRetI X hx hlk hret (hb hby d8_25) (by rw [e0]; exact ⟨rfl, K⟩) (by decide) (by decide)
def Q_rC5U_4_2 (Z : State) (xa xd : Addr) (xk xl : ClassId) (xc0 xc1 xc2 xc3 : Int32) (h0 : Heap) (v : Option Value) (h : Heap) (L : List Loc) : Prop := v = some (.int (2 : Int32)) ∧ oKp h0 h [xd] L
theorem rC5U_4_2 (l : Launch) (Z : State) (a0 : Array Value) (hw : oHW a0 Z) (ws : List Jvm.Cond) (xa xd : Addr) (xk xl : ClassId) (xc0 xc1 xc2 xc3 : Int32) (h0 : Heap) (O0 : Ext Z.heap h0) (og_xd : Z.heap.size ≤ xd) (ne_xa_xd : xa ≠ xd) (V_xa : Arv Z h0 xa xk .char (4 : Int32) [(.int xc0), (.int xc1), (.int xc2), (.int xc3)] (.int (0 : Int32))) (V_xd : Arv Z h0 xd xl .byte (4 : Int32) [(.int (0 : Int32)), (.int (0 : Int32)), (.int (0 : Int32)), (.int (0 : Int32))] (.int (0 : Int32))) (hle0 : ¬ (255 : Int32) < xc0) (hle1 : ¬ (255 : Int32) < xc1) (hgt : (255 : Int32) < xc2) :
    oCon l Z yy5 jdk_52_method_21_code 7 (some .int) ws ({ frames := 0, cells := 0, slots := 0, locals := 0 } : Room) #[(.ref xa), (.int (0 : Int32)), (.ref xd), (.int (0 : Int32)), (.int (4 : Int32))] h0 (Q_rC5U_4_2 Z xa xd xk xl xc0 xc1 xc2 xc3 h0) := by
  refine oCon.of (plainFor_of_name pn_3) ?_
  intro p e s m below meth c T X hx hby hml hown hnm hret hlk hZ e0
  have hml : c.maxLocals = 7 := hml
  have K : oKp h0 h0 [xd] [] := oKp.nil _ _
  refine oWk.cast (g' := (mkF m 0 #[rv xa, iv 0, rv xd, iv 0, iv 4, uu, uu] [])) (by first | rfl | (simp [entryFrame, mkF, argsToLocals, Value.category]; done)) ?_
  refine oWk.to (mkF m 12 #[rv xa, iv 0, rv xd, iv 0, iv 4, iv 0, uu] [(.int 0), (.ref xa)]) (fun _ kt => zK X hx hby d8_0 rfl (zS X hx hby d8_1 rfl rfl (l' := #[rv xa, iv 0, rv xd, iv 0, iv 4, iv 0, uu]) rfl (zJ X hx hby d8_3 rfl rfl (zJ X hx hby d8_5 rfl rfl (zN X hx hby d8_7 rfl rfl (tlt (by decide)).2.1 (zA X hx hby d8_10 rfl rfl rfl (zI X hx hby d8_11 rfl rfl kt))))))) ?_
  refine oWk.to (mkF m 20 #[rv xa, iv 0, rv xd, iv 0, iv 4, iv 0, iv xc0] [(.int 255), (.int xc0)]) (fun _ kt => oLdC X hx hZ e0 V_xa (0 : Int32) (.int xc0) ⟨by decide, by decide⟩ rfl hby d8_12 rfl rfl (zS X hx hby d8_13 rfl rfl (l' := #[rv xa, iv 0, rv xd, iv 0, iv 4, iv 0, iv xc0]) rfl (zJ X hx hby d8_15 rfl rfl (zM X hx hby d8_17 rfl kt)))) ?_
  refine oWk.to (mkF m 31 #[rv xa, iv 0, rv xd, iv 0, iv 4, iv 0, iv xc0] [(ib xc0), (.int 0), (.ref xd)]) (fun _ kt => zY X hx hby d8_20 rfl rfl (flt hle0).2.2.2 (pc' := 26) rfl (zA X hx hby d8_26 rfl rfl rfl (zI X hx hby d8_27 rfl rfl (zJ X hx hby d8_28 rfl rfl (XS.i2b X.here hx rfl (hb hby d8_30) rfl kt))))) ?_
  obtain ⟨cl2, Ar2, q2, Sz2, Nn2, Hs2, Ft2⟩ := id V_xd
  have hin2 : ¬ ((0 : Int32) < 0 ∨ cl2.slots.size ≤ ((0 : Int32)).toNatClampNeg) := inb_of Sz2 ⟨by decide, by decide⟩
  obtain ⟨T, h, X, e0, W2, st⟩ := stB X hx hZ e0 Ar2 (j := (0 : Int32)) hin2 (g := (mkF m 31 #[rv xa, iv 0, rv xd, iv 0, iv 4, iv 0, iv xc0] [(ib xc0), (.int 0), (.ref xd)])) rfl rfl (hb hby d8_31)
  have K := K.wr W2 (Or.inl (List.mem_of_getElem? (i := 0) rfl))
  have V_xd := Arv.set Ar2 q2 Sz2 Nn2 Hs2 Ft2 (fits_nar_byte _) W2 0 rfl (Nat.le_of_ble_eq_true rfl)
  rw [oB8 xc0] at V_xd
  replace V_xd : Arv Z h xd xl .byte (4 : Int32) [(ib xc0), (.int (0 : Int32)), (.int (0 : Int32)), (.int (0 : Int32))] (.int (0 : Int32)) := V_xd
  refine oWk.to (mkF m 7 #[rv xa, iv 1, rv xd, iv 1, iv 4, iv 1, iv xc0] [(.int 4), (.int 1)]) (fun _ kt => st _ (zC X hx hby d8_32 rfl rfl (l' := #[rv xa, iv ((0 : Int32) + (1 : Int32)), rv xd, iv 0, iv 4, iv 0, iv xc0]) rfl (zC X hx hby d8_35 rfl rfl (l' := #[rv xa, iv 1, rv xd, iv ((0 : Int32) + (1 : Int32)), iv 4, iv 0, iv xc0]) rfl (zC X hx hby d8_38 rfl rfl (l' := #[rv xa, iv 1, rv xd, iv 1, iv 4, iv ((0 : Int32) + (1 : Int32)), iv xc0]) rfl (zG X hx hby d8_41 rfl (pc' := 3) rfl (zJ X hx hby d8_3 rfl rfl (zJ X hx hby d8_5 rfl rfl kt))))))) ?_
  refine oWk.st (fun _ kt => zN X hx hby d8_7 rfl rfl (tlt (by decide)).2.1 (zA X hx hby d8_10 rfl rfl rfl (zI X hx hby d8_11 rfl rfl kt))) ?_
  have V_xa := (V_xa.other W2 ne_xa_xd)
  refine oWk.to (mkF m 20 #[rv xa, iv 1, rv xd, iv 1, iv 4, iv 1, iv xc1] [(.int 255), (.int xc1)]) (fun _ kt => oLdC X hx hZ e0 V_xa (1 : Int32) (.int xc1) ⟨by decide, by decide⟩ rfl hby d8_12 rfl rfl (zS X hx hby d8_13 rfl rfl (l' := #[rv xa, iv 1, rv xd, iv 1, iv 4, iv 1, iv xc1]) rfl (zJ X hx hby d8_15 rfl rfl (zM X hx hby d8_17 rfl kt)))) ?_
  refine oWk.to (mkF m 31 #[rv xa, iv 1, rv xd, iv 1, iv 4, iv 1, iv xc1] [(ib xc1), (.int 1), (.ref xd)]) (fun _ kt => zY X hx hby d8_20 rfl rfl (flt hle1).2.2.2 (pc' := 26) rfl (zA X hx hby d8_26 rfl rfl rfl (zI X hx hby d8_27 rfl rfl (zJ X hx hby d8_28 rfl rfl (XS.i2b X.here hx rfl (hb hby d8_30) rfl kt))))) ?_
  obtain ⟨cl4, Ar4, q4, Sz4, Nn4, Hs4, Ft4⟩ := id V_xd
  have hin4 : ¬ ((1 : Int32) < 0 ∨ cl4.slots.size ≤ ((1 : Int32)).toNatClampNeg) := inb_of Sz4 ⟨by decide, by decide⟩
  obtain ⟨T, h, X, e0, W4, st⟩ := stB X hx hZ e0 Ar4 (j := (1 : Int32)) hin4 (g := (mkF m 31 #[rv xa, iv 1, rv xd, iv 1, iv 4, iv 1, iv xc1] [(ib xc1), (.int 1), (.ref xd)])) rfl rfl (hb hby d8_31)
  have K := K.wr W4 (Or.inl (List.mem_of_getElem? (i := 0) rfl))
  have V_xd := Arv.set Ar4 q4 Sz4 Nn4 Hs4 Ft4 (fits_nar_byte _) W4 1 rfl (Nat.le_of_ble_eq_true rfl)
  rw [oB8 xc1] at V_xd
  replace V_xd : Arv Z h xd xl .byte (4 : Int32) [(ib xc0), (ib xc1), (.int (0 : Int32)), (.int (0 : Int32))] (.int (0 : Int32)) := V_xd
  refine oWk.to (mkF m 7 #[rv xa, iv 2, rv xd, iv 2, iv 4, iv 2, iv xc1] [(.int 4), (.int 2)]) (fun _ kt => st _ (zC X hx hby d8_32 rfl rfl (l' := #[rv xa, iv ((1 : Int32) + (1 : Int32)), rv xd, iv 1, iv 4, iv 1, iv xc1]) rfl (zC X hx hby d8_35 rfl rfl (l' := #[rv xa, iv 2, rv xd, iv ((1 : Int32) + (1 : Int32)), iv 4, iv 1, iv xc1]) rfl (zC X hx hby d8_38 rfl rfl (l' := #[rv xa, iv 2, rv xd, iv 2, iv 4, iv ((1 : Int32) + (1 : Int32)), iv xc1]) rfl (zG X hx hby d8_41 rfl (pc' := 3) rfl (zJ X hx hby d8_3 rfl rfl (zJ X hx hby d8_5 rfl rfl kt))))))) ?_
  refine oWk.st (fun _ kt => zN X hx hby d8_7 rfl rfl (tlt (by decide)).2.1 (zA X hx hby d8_10 rfl rfl rfl (zI X hx hby d8_11 rfl rfl kt))) ?_
  have V_xa := (V_xa.other W4 ne_xa_xd)
  refine oWk.to (mkF m 20 #[rv xa, iv 2, rv xd, iv 2, iv 4, iv 2, iv xc2] [(.int 255), (.int xc2)]) (fun _ kt => oLdC X hx hZ e0 V_xa (2 : Int32) (.int xc2) ⟨by decide, by decide⟩ rfl hby d8_12 rfl rfl (zS X hx hby d8_13 rfl rfl (l' := #[rv xa, iv 2, rv xd, iv 2, iv 4, iv 2, iv xc2]) rfl (zJ X hx hby d8_15 rfl rfl (zM X hx hby d8_17 rfl kt)))) ?_
  refine oWk.to (mkF m 25 #[rv xa, iv 2, rv xd, iv 2, iv 4, iv 2, iv xc2] [(.int 2)]) (fun _ kt => zN X hx hby d8_20 rfl rfl (tlt hgt).2.2.2 (zJ X hx hby d8_23 rfl rfl kt)) ?_
  exact oRetI X hx hlk hret (hb hby d8_25) (by rw [e0]; exact ⟨rfl, K⟩) (by decide) (by decide)
def Q_rC5U_4_3 (Z : State) (xa xd : Addr) (xk xl : ClassId) (xc0 xc1 xc2 xc3 : Int32) (h0 : Heap) (v : Option Value) (h : Heap) (L : List Loc) : Prop := v = some (.int (3 : Int32)) ∧ oKp h0 h [xd] L
theorem rC5U_4_3 (l : Launch) (Z : State) (a0 : Array Value) (hw : oHW a0 Z) (ws : List Jvm.Cond) (xa xd : Addr) (xk xl : ClassId) (xc0 xc1 xc2 xc3 : Int32) (h0 : Heap) (O0 : Ext Z.heap h0) (og_xd : Z.heap.size ≤ xd) (ne_xa_xd : xa ≠ xd) (V_xa : Arv Z h0 xa xk .char (4 : Int32) [(.int xc0), (.int xc1), (.int xc2), (.int xc3)] (.int (0 : Int32))) (V_xd : Arv Z h0 xd xl .byte (4 : Int32) [(.int (0 : Int32)), (.int (0 : Int32)), (.int (0 : Int32)), (.int (0 : Int32))] (.int (0 : Int32))) (hle0 : ¬ (255 : Int32) < xc0) (hle1 : ¬ (255 : Int32) < xc1) (hle2 : ¬ (255 : Int32) < xc2) (hgt : (255 : Int32) < xc3) :
    oCon l Z yy5 jdk_52_method_21_code 7 (some .int) ws ({ frames := 0, cells := 0, slots := 0, locals := 0 } : Room) #[(.ref xa), (.int (0 : Int32)), (.ref xd), (.int (0 : Int32)), (.int (4 : Int32))] h0 (Q_rC5U_4_3 Z xa xd xk xl xc0 xc1 xc2 xc3 h0) := by
  refine oCon.of (plainFor_of_name pn_3) ?_
  intro p e s m below meth c T X hx hby hml hown hnm hret hlk hZ e0
  have hml : c.maxLocals = 7 := hml
  have K : oKp h0 h0 [xd] [] := oKp.nil _ _
  refine oWk.cast (g' := (mkF m 0 #[rv xa, iv 0, rv xd, iv 0, iv 4, uu, uu] [])) (by first | rfl | (simp [entryFrame, mkF, argsToLocals, Value.category]; done)) ?_
  refine oWk.to (mkF m 12 #[rv xa, iv 0, rv xd, iv 0, iv 4, iv 0, uu] [(.int 0), (.ref xa)]) (fun _ kt => zK X hx hby d8_0 rfl (zS X hx hby d8_1 rfl rfl (l' := #[rv xa, iv 0, rv xd, iv 0, iv 4, iv 0, uu]) rfl (zJ X hx hby d8_3 rfl rfl (zJ X hx hby d8_5 rfl rfl (zN X hx hby d8_7 rfl rfl (tlt (by decide)).2.1 (zA X hx hby d8_10 rfl rfl rfl (zI X hx hby d8_11 rfl rfl kt))))))) ?_
  refine oWk.to (mkF m 20 #[rv xa, iv 0, rv xd, iv 0, iv 4, iv 0, iv xc0] [(.int 255), (.int xc0)]) (fun _ kt => oLdC X hx hZ e0 V_xa (0 : Int32) (.int xc0) ⟨by decide, by decide⟩ rfl hby d8_12 rfl rfl (zS X hx hby d8_13 rfl rfl (l' := #[rv xa, iv 0, rv xd, iv 0, iv 4, iv 0, iv xc0]) rfl (zJ X hx hby d8_15 rfl rfl (zM X hx hby d8_17 rfl kt)))) ?_
  refine oWk.to (mkF m 31 #[rv xa, iv 0, rv xd, iv 0, iv 4, iv 0, iv xc0] [(ib xc0), (.int 0), (.ref xd)]) (fun _ kt => zY X hx hby d8_20 rfl rfl (flt hle0).2.2.2 (pc' := 26) rfl (zA X hx hby d8_26 rfl rfl rfl (zI X hx hby d8_27 rfl rfl (zJ X hx hby d8_28 rfl rfl (XS.i2b X.here hx rfl (hb hby d8_30) rfl kt))))) ?_
  obtain ⟨cl2, Ar2, q2, Sz2, Nn2, Hs2, Ft2⟩ := id V_xd
  have hin2 : ¬ ((0 : Int32) < 0 ∨ cl2.slots.size ≤ ((0 : Int32)).toNatClampNeg) := inb_of Sz2 ⟨by decide, by decide⟩
  obtain ⟨T, h, X, e0, W2, st⟩ := stB X hx hZ e0 Ar2 (j := (0 : Int32)) hin2 (g := (mkF m 31 #[rv xa, iv 0, rv xd, iv 0, iv 4, iv 0, iv xc0] [(ib xc0), (.int 0), (.ref xd)])) rfl rfl (hb hby d8_31)
  have K := K.wr W2 (Or.inl (List.mem_of_getElem? (i := 0) rfl))
  have V_xd := Arv.set Ar2 q2 Sz2 Nn2 Hs2 Ft2 (fits_nar_byte _) W2 0 rfl (Nat.le_of_ble_eq_true rfl)
  rw [oB8 xc0] at V_xd
  replace V_xd : Arv Z h xd xl .byte (4 : Int32) [(ib xc0), (.int (0 : Int32)), (.int (0 : Int32)), (.int (0 : Int32))] (.int (0 : Int32)) := V_xd
  refine oWk.to (mkF m 7 #[rv xa, iv 1, rv xd, iv 1, iv 4, iv 1, iv xc0] [(.int 4), (.int 1)]) (fun _ kt => st _ (zC X hx hby d8_32 rfl rfl (l' := #[rv xa, iv ((0 : Int32) + (1 : Int32)), rv xd, iv 0, iv 4, iv 0, iv xc0]) rfl (zC X hx hby d8_35 rfl rfl (l' := #[rv xa, iv 1, rv xd, iv ((0 : Int32) + (1 : Int32)), iv 4, iv 0, iv xc0]) rfl (zC X hx hby d8_38 rfl rfl (l' := #[rv xa, iv 1, rv xd, iv 1, iv 4, iv ((0 : Int32) + (1 : Int32)), iv xc0]) rfl (zG X hx hby d8_41 rfl (pc' := 3) rfl (zJ X hx hby d8_3 rfl rfl (zJ X hx hby d8_5 rfl rfl kt))))))) ?_
  refine oWk.st (fun _ kt => zN X hx hby d8_7 rfl rfl (tlt (by decide)).2.1 (zA X hx hby d8_10 rfl rfl rfl (zI X hx hby d8_11 rfl rfl kt))) ?_
  have V_xa := (V_xa.other W2 ne_xa_xd)
  refine oWk.to (mkF m 20 #[rv xa, iv 1, rv xd, iv 1, iv 4, iv 1, iv xc1] [(.int 255), (.int xc1)]) (fun _ kt => oLdC X hx hZ e0 V_xa (1 : Int32) (.int xc1) ⟨by decide, by decide⟩ rfl hby d8_12 rfl rfl (zS X hx hby d8_13 rfl rfl (l' := #[rv xa, iv 1, rv xd, iv 1, iv 4, iv 1, iv xc1]) rfl (zJ X hx hby d8_15 rfl rfl (zM X hx hby d8_17 rfl kt)))) ?_
  refine oWk.to (mkF m 31 #[rv xa, iv 1, rv xd, iv 1, iv 4, iv 1, iv xc1] [(ib xc1), (.int 1), (.ref xd)]) (fun _ kt => zY X hx hby d8_20 rfl rfl (flt hle1).2.2.2 (pc' := 26) rfl (zA X hx hby d8_26 rfl rfl rfl (zI X hx hby d8_27 rfl rfl (zJ X hx hby d8_28 rfl rfl (XS.i2b X.here hx rfl (hb hby d8_30) rfl kt))))) ?_
  obtain ⟨cl4, Ar4, q4, Sz4, Nn4, Hs4, Ft4⟩ := id V_xd
  have hin4 : ¬ ((1 : Int32) < 0 ∨ cl4.slots.size ≤ ((1 : Int32)).toNatClampNeg) := inb_of Sz4 ⟨by decide, by decide⟩
  obtain ⟨T, h, X, e0, W4, st⟩ := stB X hx hZ e0 Ar4 (j := (1 : Int32)) hin4 (g := (mkF m 31 #[rv xa, iv 1, rv xd, iv 1, iv 4, iv 1, iv xc1] [(ib xc1), (.int 1), (.ref xd)])) rfl rfl (hb hby d8_31)
  have K := K.wr W4 (Or.inl (List.mem_of_getElem? (i := 0) rfl))
  have V_xd := Arv.set Ar4 q4 Sz4 Nn4 Hs4 Ft4 (fits_nar_byte _) W4 1 rfl (Nat.le_of_ble_eq_true rfl)
  rw [oB8 xc1] at V_xd
  replace V_xd : Arv Z h xd xl .byte (4 : Int32) [(ib xc0), (ib xc1), (.int (0 : Int32)), (.int (0 : Int32))] (.int (0 : Int32)) := V_xd
  refine oWk.to (mkF m 7 #[rv xa, iv 2, rv xd, iv 2, iv 4, iv 2, iv xc1] [(.int 4), (.int 2)]) (fun _ kt => st _ (zC X hx hby d8_32 rfl rfl (l' := #[rv xa, iv ((1 : Int32) + (1 : Int32)), rv xd, iv 1, iv 4, iv 1, iv xc1]) rfl (zC X hx hby d8_35 rfl rfl (l' := #[rv xa, iv 2, rv xd, iv ((1 : Int32) + (1 : Int32)), iv 4, iv 1, iv xc1]) rfl (zC X hx hby d8_38 rfl rfl (l' := #[rv xa, iv 2, rv xd, iv 2, iv 4, iv ((1 : Int32) + (1 : Int32)), iv xc1]) rfl (zG X hx hby d8_41 rfl (pc' := 3) rfl (zJ X hx hby d8_3 rfl rfl (zJ X hx hby d8_5 rfl rfl kt))))))) ?_
  refine oWk.st (fun _ kt => zN X hx hby d8_7 rfl rfl (tlt (by decide)).2.1 (zA X hx hby d8_10 rfl rfl rfl (zI X hx hby d8_11 rfl rfl kt))) ?_
  have V_xa := (V_xa.other W4 ne_xa_xd)
  refine oWk.to (mkF m 20 #[rv xa, iv 2, rv xd, iv 2, iv 4, iv 2, iv xc2] [(.int 255), (.int xc2)]) (fun _ kt => oLdC X hx hZ e0 V_xa (2 : Int32) (.int xc2) ⟨by decide, by decide⟩ rfl hby d8_12 rfl rfl (zS X hx hby d8_13 rfl rfl (l' := #[rv xa, iv 2, rv xd, iv 2, iv 4, iv 2, iv xc2]) rfl (zJ X hx hby d8_15 rfl rfl (zM X hx hby d8_17 rfl kt)))) ?_
  refine oWk.to (mkF m 31 #[rv xa, iv 2, rv xd, iv 2, iv 4, iv 2, iv xc2] [(ib xc2), (.int 2), (.ref xd)]) (fun _ kt => zY X hx hby d8_20 rfl rfl (flt hle2).2.2.2 (pc' := 26) rfl (zA X hx hby d8_26 rfl rfl rfl (zI X hx hby d8_27 rfl rfl (zJ X hx hby d8_28 rfl rfl (XS.i2b X.here hx rfl (hb hby d8_30) rfl kt))))) ?_
  obtain ⟨cl6, Ar6, q6, Sz6, Nn6, Hs6, Ft6⟩ := id V_xd
  have hin6 : ¬ ((2 : Int32) < 0 ∨ cl6.slots.size ≤ ((2 : Int32)).toNatClampNeg) := inb_of Sz6 ⟨by decide, by decide⟩
  obtain ⟨T, h, X, e0, W6, st⟩ := stB X hx hZ e0 Ar6 (j := (2 : Int32)) hin6 (g := (mkF m 31 #[rv xa, iv 2, rv xd, iv 2, iv 4, iv 2, iv xc2] [(ib xc2), (.int 2), (.ref xd)])) rfl rfl (hb hby d8_31)
  have K := K.wr W6 (Or.inl (List.mem_of_getElem? (i := 0) rfl))
  have V_xd := Arv.set Ar6 q6 Sz6 Nn6 Hs6 Ft6 (fits_nar_byte _) W6 2 rfl (Nat.le_of_ble_eq_true rfl)
  rw [oB8 xc2] at V_xd
  replace V_xd : Arv Z h xd xl .byte (4 : Int32) [(ib xc0), (ib xc1), (ib xc2), (.int (0 : Int32))] (.int (0 : Int32)) := V_xd
  refine oWk.to (mkF m 7 #[rv xa, iv 3, rv xd, iv 3, iv 4, iv 3, iv xc2] [(.int 4), (.int 3)]) (fun _ kt => st _ (zC X hx hby d8_32 rfl rfl (l' := #[rv xa, iv ((2 : Int32) + (1 : Int32)), rv xd, iv 2, iv 4, iv 2, iv xc2]) rfl (zC X hx hby d8_35 rfl rfl (l' := #[rv xa, iv 3, rv xd, iv ((2 : Int32) + (1 : Int32)), iv 4, iv 2, iv xc2]) rfl (zC X hx hby d8_38 rfl rfl (l' := #[rv xa, iv 3, rv xd, iv 3, iv 4, iv ((2 : Int32) + (1 : Int32)), iv xc2]) rfl (zG X hx hby d8_41 rfl (pc' := 3) rfl (zJ X hx hby d8_3 rfl rfl (zJ X hx hby d8_5 rfl rfl kt))))))) ?_
  refine oWk.st (fun _ kt => zN X hx hby d8_7 rfl rfl (tlt (by decide)).2.1 (zA X hx hby d8_10 rfl rfl rfl (zI X hx hby d8_11 rfl rfl kt))) ?_
  have V_xa := (V_xa.other W6 ne_xa_xd)
  refine oWk.to (mkF m 20 #[rv xa, iv 3, rv xd, iv 3, iv 4, iv 3, iv xc3] [(.int 255), (.int xc3)]) (fun _ kt => oLdC X hx hZ e0 V_xa (3 : Int32) (.int xc3) ⟨by decide, by decide⟩ rfl hby d8_12 rfl rfl (zS X hx hby d8_13 rfl rfl (l' := #[rv xa, iv 3, rv xd, iv 3, iv 4, iv 3, iv xc3]) rfl (zJ X hx hby d8_15 rfl rfl (zM X hx hby d8_17 rfl kt)))) ?_
  refine oWk.to (mkF m 25 #[rv xa, iv 3, rv xd, iv 3, iv 4, iv 3, iv xc3] [(.int 3)]) (fun _ kt => zN X hx hby d8_20 rfl rfl (tlt hgt).2.2.2 (zJ X hx hby d8_23 rfl rfl kt)) ?_
  exact oRetI X hx hlk hret (hb hby d8_25) (by rw [e0]; exact ⟨rfl, K⟩) (by decide) (by decide)
def Q_rNBL_4 (Z : State)  (h0 : Heap) (v : Option Value) (h : Heap) (L : List Loc) : Prop := v = some (.int (8 : Int32)) ∧ h = h0 ∧ oKp h0 h [] L
theorem rNBL_4 (l : Launch) (Z : State) (a0 : Array Value) (hw : oHW a0 Z) (ws : List Jvm.Cond)  (h0 : Heap) (O0 : Ext Z.heap h0)  :
    oCon l Z yy8 jdk_52_method_3_code 1 (some .int) ws ({ frames := 0, cells := 0, slots := 0, locals := 0 } : Room) #[(.int (4 : Int32))] h0 (Q_rNBL_4 Z  h0) := by
  refine oCon.of (plainFor_of_name pn_3) ?_
  intro p e s m below meth c T X hx hby hml hown hnm hret hlk hZ e0
  have hml : c.maxLocals = 1 := hml
  have K : oKp h0 h0 [] [] := oKp.nil _ _
  refine oWk.cast (g' := (mkF m 0 #[iv 4] [])) (by first | rfl | (simp [entryFrame, mkF, argsToLocals, Value.category]; done)) ?_
  refine oWk.st (fun _ kt => zI X hx hby d21_0 rfl rfl (zF X hx hby d21_1 rfl rfl ((if0 _ _).trans (flt (by decide)).2.1) (pc' := 12) rfl (zI X hx hby d21_12 rfl rfl kt))) ?_
  refine oWk.to (mkF m 58 #[iv 4] [(.int 8)]) (fun _ kt => X.ldcI hx hown (mvT hZ (oW hw 96 rfl)) rfl (hb hby d21_13) (zY X hx hby d21_15 rfl rfl (tlt (by decide)).1 (pc' := 55) rfl (zI X hx hby d21_55 rfl rfl (zK X hx hby d21_56 rfl (XS.ishl X.here hx rfl (hb hby d21_57) rfl kt))))) ?_
  exact oRetI X hx hlk hret (hb hby d21_58) (by rw [e0]; exact ⟨rfl, rfl, K⟩) (by decide) (by decide)
def Q_rNBF_4 (Z : State)  (h0 : Heap) (v : Option Value) (h : Heap) (L : List Loc) : Prop := ∃ (nb : Addr) (nk : ClassId), v = some (.ref nb) ∧ oKp h0 h [] L ∧ (h0.size ≤ nb) ∧ (Arv Z h nb nk .byte (8 : Int32) [(.int (0 : Int32)), (.int (0 : Int32)), (.int (0 : Int32)), (.int (0 : Int32)), (.int (0 : Int32)), (.int (0 : Int32)), (.int (0 : Int32)), (.int (0 : Int32))] (.int (0 : Int32)))
theorem rNBF_4 (l : Launch) (Z : State) (a0 : Array Value) (hw : oHW a0 Z) (ws : List Jvm.Cond)  (h0 : Heap) (O0 : Ext Z.heap h0)  :
    oCon l Z yy9 jdk_52_method_2_code 1 (some (.array .byte)) ws ({ frames := 1, cells := 1, slots := 8, locals := 12 } : Room) #[(.int (4 : Int32))] h0 (Q_rNBF_4 Z  h0) := by
  refine oCon.of (plainFor_of_name pn_3) ?_
  intro p e s m below meth c T X hx hby hml hown hnm hret hlk hZ e0
  have hml : c.maxLocals = 1 := hml
  have K : oKp h0 h0 [] [] := oKp.nil _ _
  refine oWk.cast (g' := (mkF m 0 #[iv 4] [])) (by first | rfl | (simp [entryFrame, mkF, argsToLocals, Value.category]; done)) ?_
  refine oWk.st (fun _ kt => zI X hx hby d20_0 rfl rfl kt) ?_
  have Oh := K.old O0 all0
  obtain ⟨T, L2, X, e0, K, st⟩ := (cs5 hw).pure X hx hZ hown e0 K (A := [(.int (4 : Int32))]) rfl (rNBL_4 l Z a0 hw []  h0 Oh ) (fun _ _ _ q => q) (W := 0) (by decide) hml (Ls := #[iv 4]) rfl (rest := []) rfl rfl hby d20_1
  refine oWk.st (fun _ kt => st _ kt) ?_
  obtain ⟨o3, g3⟩ : ∃ z, z = h0.size := ⟨_, rfl⟩
  have ge_o3 : h0.size ≤ o3 := Nat.le_trans K.le (Nat.le_of_eq g3.symm)
  obtain ⟨T, h, k3, X, e0, E3, A3, st⟩ := newP X hx hZ (oW hw 17 rfl) e0 (g := (mkF m 4 #[iv 4] [(.int 8)])) rfl (hb hby d20_4) rfl (by decide) (cap := 8) (by decide) (by decide) (by decide) (by decide)
  rw [← g3] at A3 st
  have K := K.ext E3
  have V_o3 : Arv Z h o3 k3 .byte (8 : Int32) [(.int (0 : Int32)), (.int (0 : Int32)), (.int (0 : Int32)), (.int (0 : Int32)), (.int (0 : Int32)), (.int (0 : Int32)), (.int (0 : Int32)), (.int (0 : Int32))] (.int (0 : Int32)) := (Arv.new A3 (by decide)).pad (pad_rep [] (.int (0 : Int32)) 8)
  refine oWk.to (mkF m 6 #[iv 4] [(.ref o3)]) (fun _ kt => st _ kt) ?_
  exact oRetA X hx hlk hret rfl rfl (hb hby d20_6) (by rw [e0]; exact ⟨o3, k3, rfl, K, ge_o3, V_o3⟩) (by decide) (by decide)
def Q_rPut_4_0 (Z : State) (xb : Addr) (xk : ClassId) (xp xy0 xy1 xy2 xy3 xy4 xy5 xy6 xy7 : Int32) (h0 : Heap) (v : Option Value) (h : Heap) (L : List Loc) : Prop := v = none ∧ oKp h0 h [xb] L ∧ (Arv Z h xb xk .byte (8 : Int32) [(iu0 xp), (iu8 xp), (.int xy2), (.int xy3), (.int xy4), (.int xy5), (.int xy6), (.int xy7)] (.int (0 : Int32)))
theorem rPut_4_0 (l : Launch) (Z : State) (a0 : Array Value) (hw : oHW a0 Z) (ws : List Jvm.Cond) (xb : Addr) (xk : ClassId) (xp xy0 xy1 xy2 xy3 xy4 xy5 xy6 xy7 : Int32) (h0 : Heap) (O0 : Ext Z.heap h0) (S__assertionsDisabled : Sta Z Z.heap Y1 Y3 "Z" (.int (1 : Int32))) (S_HI_BYTE_SHIFT : Sta Z Z.heap Y1 "HI_BYTE_SHIFT" "I" (.int (0 : Int32))) (S_LO_BYTE_SHIFT : Sta Z Z.heap Y1 "LO_BYTE_SHIFT" "I" (.int (8 : Int32))) (og_xb : Z.heap.size ≤ xb) (V_xb : Arv Z h0 xb xk .byte (8 : Int32) [(.int xy0), (.int xy1), (.int xy2), (.int xy3), (.int xy4), (.int xy5), (.int xy6), (.int xy7)] (.int (0 : Int32))) :
    oCon l Z yy10 jdk_52_method_4_code 3 none ws ({ frames := 0, cells := 0, slots := 0, locals := 0 } : Room) #[(.ref xb), (.int (0 : Int32)), (.int xp)] h0 (Q_rPut_4_0 Z xb xk xp xy0 xy1 xy2 xy3 xy4 xy5 xy6 xy7 h0) := by
  refine oCon.of (plainFor_of_name pn_3) ?_
  intro p e s m below meth c T X hx hby hml hown hnm hret hlk hZ e0
  have hml : c.maxLocals = 3 := hml
  have K : oKp h0 h0 [xb] [] := oKp.nil _ _
  refine oWk.cast (g' := (mkF m 0 #[rv xb, iv 0, iv xp] [])) (by first | rfl | (simp [entryFrame, mkF, argsToLocals, Value.category]; done)) ?_
  have Oh := K.old O0 (allS og_xb all0)
  obtain ⟨T, X, e0, st⟩ := getS2 X hx hZ hown (host := "") (Or.inl (oW hw 100 rfl)) Via.refl e0 (S__assertionsDisabled.ext Oh) (g := (mkF m 0 #[rv xb, iv 0, iv xp] [])) rfl (hb hby d22_0)
  refine oWk.to (mkF m 33 #[rv xb, iv 0, iv xp] [(.ref xb)]) (fun _ kt => st _ (zF X hx hby d22_3 rfl rfl ((if0 _ _).trans (feq (by decide)).2) (pc' := 28) rfl (zI X hx hby d22_28 rfl rfl (zK X hx hby d22_29 rfl (XS.ishl X.here hx rfl (hb hby d22_30) rfl (zSn X hx hby d22_31 rfl rfl (l' := #[rv xb, iv 0, iv xp]) rfl (zA X hx hby d22_32 rfl rfl rfl kt))))))) ?_
  refine oWk.st (fun _ kt => zI X hx hby d22_33 rfl rfl (zC X hx hby d22_34 rfl rfl (l' := #[rv xb, iv ((0 : Int32) + (1 : Int32)), iv xp]) rfl (zI X hx hby d22_37 rfl rfl kt))) ?_
  obtain ⟨T, X, e0, st⟩ := getS2 X hx hZ hown (host := "") (Or.inl (oW hw 101 rfl)) Via.refl e0 (S_HI_BYTE_SHIFT.ext Oh) (g := (mkF m 38 #[rv xb, iv 1, iv xp] [(.int xp), (.int 0), (.ref xb)])) rfl (hb hby d22_38)
  refine oWk.st (fun _ kt => st _ (XS.ishr X.here hx rfl (hb hby d22_41) rfl (XS.i2b X.here hx rfl (hb hby d22_42) rfl kt))) ?_
  obtain ⟨cl1, Ar1, q1, Sz1, Nn1, Hs1, Ft1⟩ := id V_xb
  have hin1 : ¬ ((0 : Int32) < 0 ∨ cl1.slots.size ≤ ((0 : Int32)).toNatClampNeg) := inb_of Sz1 ⟨by decide, by decide⟩
  obtain ⟨T, h, X, e0, W1, st⟩ := stB X hx hZ e0 Ar1 (j := (0 : Int32)) hin1 (g := (mkF m 43 #[rv xb, iv 1, iv xp] [(iu0 xp), (.int 0), (.ref xb)])) rfl rfl (hb hby d22_43)
  have K := K.wr W1 (Or.inl (List.mem_of_getElem? (i := 0) rfl))
  have V_xb := Arv.set Ar1 q1 Sz1 Nn1 Hs1 Ft1 (fits_nar_byte _) W1 0 rfl (Nat.le_of_ble_eq_true rfl)
  rw [oB8 (xp >>> ((0 : Int32) &&& 31))] at V_xb
  replace V_xb : Arv Z h xb xk .byte (8 : Int32) [(iu0 xp), (.int xy1), (.int xy2), (.int xy3), (.int xy4), (.int xy5), (.int xy6), (.int xy7)] (.int (0 : Int32)) := V_xb
  refine oWk.st (fun _ kt => st _ (zA X hx hby d22_44 rfl rfl rfl (zI X hx hby d22_45 rfl rfl (zI X hx hby d22_46 rfl rfl kt)))) ?_
  have Oh := K.old O0 (allS og_xb all0)
  obtain ⟨T, X, e0, st⟩ := getS2 X hx hZ hown (host := "") (Or.inl (oW hw 102 rfl)) Via.refl e0 (S_LO_BYTE_SHIFT.ext Oh) (g := (mkF m 47 #[rv xb, iv 1, iv xp] [(.int xp), (.int 1), (.ref xb)])) rfl (hb hby d22_47)
  refine oWk.st (fun _ kt => st _ (XS.ishr X.here hx rfl (hb hby d22_50) rfl (XS.i2b X.here hx rfl (hb hby d22_51) rfl kt))) ?_
  obtain ⟨cl2, Ar2, q2, Sz2, Nn2, Hs2, Ft2⟩ := id V_xb
  have hin2 : ¬ ((1 : Int32) < 0 ∨ cl2.slots.size ≤ ((1 : Int32)).toNatClampNeg) := inb_of Sz2 ⟨by decide, by decide⟩
  obtain ⟨T, h, X, e0, W2, st⟩ := stB X hx hZ e0 Ar2 (j := (1 : Int32)) hin2 (g := (mkF m 52 #[rv xb, iv 1, iv xp] [(iu8 xp), (.int 1), (.ref xb)])) rfl rfl (hb hby d22_52)
  have K := K.wr W2 (Or.inl (List.mem_of_getElem? (i := 0) rfl))
  have V_xb := Arv.set Ar2 q2 Sz2 Nn2 Hs2 Ft2 (fits_nar_byte _) W2 1 rfl (Nat.le_of_ble_eq_true rfl)
  rw [oB8 (xp >>> ((8 : Int32) &&& 31))] at V_xb
  replace V_xb : Arv Z h xb xk .byte (8 : Int32) [(iu0 xp), (iu8 xp), (.int xy2), (.int xy3), (.int xy4), (.int xy5), (.int xy6), (.int xy7)] (.int (0 : Int32)) := V_xb
  refine oWk.to (mkF m 53 #[rv xb, iv 1, iv xp] []) (fun _ kt => st _ kt) ?_
  exact oRetV X hx hlk hret (hb hby d22_53) (by rw [e0]; exact ⟨rfl, K, V_xb⟩) (by decide) (by decide)
def Q_rPut_4_1 (Z : State) (xb : Addr) (xk : ClassId) (xp xy0 xy1 xy2 xy3 xy4 xy5 xy6 xy7 : Int32) (h0 : Heap) (v : Option Value) (h : Heap) (L : List Loc) : Prop := v = none ∧ oKp h0 h [xb] L ∧ (Arv Z h xb xk .byte (8 : Int32) [(.int xy0), (.int xy1), (iu0 xp), (iu8 xp), (.int xy4), (.int xy5), (.int xy6), (.int xy7)] (.int (0 : Int32)))
theorem rPut_4_1 (l : Launch) (Z : State) (a0 : Array Value) (hw : oHW a0 Z) (ws : List Jvm.Cond) (xb : Addr) (xk : ClassId) (xp xy0 xy1 xy2 xy3 xy4 xy5 xy6 xy7 : Int32) (h0 : Heap) (O0 : Ext Z.heap h0) (S__assertionsDisabled : Sta Z Z.heap Y1 Y3 "Z" (.int (1 : Int32))) (S_HI_BYTE_SHIFT : Sta Z Z.heap Y1 "HI_BYTE_SHIFT" "I" (.int (0 : Int32))) (S_LO_BYTE_SHIFT : Sta Z Z.heap Y1 "LO_BYTE_SHIFT" "I" (.int (8 : Int32))) (og_xb : Z.heap.size ≤ xb) (V_xb : Arv Z h0 xb xk .byte (8 : Int32) [(.int xy0), (.int xy1), (.int xy2), (.int xy3), (.int xy4), (.int xy5), (.int xy6), (.int xy7)] (.int (0 : Int32))) :
    oCon l Z yy10 jdk_52_method_4_code 3 none ws ({ frames := 0, cells := 0, slots := 0, locals := 0 } : Room) #[(.ref xb), (.int (1 : Int32)), (.int xp)] h0 (Q_rPut_4_1 Z xb xk xp xy0 xy1 xy2 xy3 xy4 xy5 xy6 xy7 h0) := by
  refine oCon.of (plainFor_of_name pn_3) ?_
  intro p e s m below meth c T X hx hby hml hown hnm hret hlk hZ e0
  have hml : c.maxLocals = 3 := hml
  have K : oKp h0 h0 [xb] [] := oKp.nil _ _
  refine oWk.cast (g' := (mkF m 0 #[rv xb, iv 1, iv xp] [])) (by first | rfl | (simp [entryFrame, mkF, argsToLocals, Value.category]; done)) ?_
  have Oh := K.old O0 (allS og_xb all0)
  obtain ⟨T, X, e0, st⟩ := getS2 X hx hZ hown (host := "") (Or.inl (oW hw 100 rfl)) Via.refl e0 (S__assertionsDisabled.ext Oh) (g := (mkF m 0 #[rv xb, iv 1, iv xp] [])) rfl (hb hby d22_0)
  refine oWk.to (mkF m 33 #[rv xb, iv 2, iv xp] [(.ref xb)]) (fun _ kt => st _ (zF X hx hby d22_3 rfl rfl ((if0 _ _).trans (feq (by decide)).2) (pc' := 28) rfl (zI X hx hby d22_28 rfl rfl (zK X hx hby d22_29 rfl (XS.ishl X.here hx rfl (hb hby d22_30) rfl (zSn X hx hby d22_31 rfl rfl (l' := #[rv xb, iv 2, iv xp]) rfl (zA X hx hby d22_32 rfl rfl rfl kt))))))) ?_
  refine oWk.st (fun _ kt => zI X hx hby d22_33 rfl rfl (zC X hx hby d22_34 rfl rfl (l' := #[rv xb, iv ((2 : Int32) + (1 : Int32)), iv xp]) rfl (zI X hx hby d22_37 rfl rfl kt))) ?_
  obtain ⟨T, X, e0, st⟩ := getS2 X hx hZ hown (host := "") (Or.inl (oW hw 101 rfl)) Via.refl e0 (S_HI_BYTE_SHIFT.ext Oh) (g := (mkF m 38 #[rv xb, iv 3, iv xp] [(.int xp), (.int 2), (.ref xb)])) rfl (hb hby d22_38)
  refine oWk.st (fun _ kt => st _ (XS.ishr X.here hx rfl (hb hby d22_41) rfl (XS.i2b X.here hx rfl (hb hby d22_42) rfl kt))) ?_
  obtain ⟨cl1, Ar1, q1, Sz1, Nn1, Hs1, Ft1⟩ := id V_xb
  have hin1 : ¬ ((2 : Int32) < 0 ∨ cl1.slots.size ≤ ((2 : Int32)).toNatClampNeg) := inb_of Sz1 ⟨by decide, by decide⟩
  obtain ⟨T, h, X, e0, W1, st⟩ := stB X hx hZ e0 Ar1 (j := (2 : Int32)) hin1 (g := (mkF m 43 #[rv xb, iv 3, iv xp] [(iu0 xp), (.int 2), (.ref xb)])) rfl rfl (hb hby d22_43)
  have K := K.wr W1 (Or.inl (List.mem_of_getElem? (i := 0) rfl))
  have V_xb := Arv.set Ar1 q1 Sz1 Nn1 Hs1 Ft1 (fits_nar_byte _) W1 2 rfl (Nat.le_of_ble_eq_true rfl)
  rw [oB8 (xp >>> ((0 : Int32) &&& 31))] at V_xb
  replace V_xb : Arv Z h xb xk .byte (8 : Int32) [(.int xy0), (.int xy1), (iu0 xp), (.int xy3), (.int xy4), (.int xy5), (.int xy6), (.int xy7)] (.int (0 : Int32)) := V_xb
  refine oWk.st (fun _ kt => st _ (zA X hx hby d22_44 rfl rfl rfl (zI X hx hby d22_45 rfl rfl (zI X hx hby d22_46 rfl rfl kt)))) ?_
  have Oh := K.old O0 (allS og_xb all0)
  obtain ⟨T, X, e0, st⟩ := getS2 X hx hZ hown (host := "") (Or.inl (oW hw 102 rfl)) Via.refl e0 (S_LO_BYTE_SHIFT.ext Oh) (g := (mkF m 47 #[rv xb, iv 3, iv xp] [(.int xp), (.int 3), (.ref xb)])) rfl (hb hby d22_47)
  refine oWk.st (fun _ kt => st _ (XS.ishr X.here hx rfl (hb hby d22_50) rfl (XS.i2b X.here hx rfl (hb hby d22_51) rfl kt))) ?_
  obtain ⟨cl2, Ar2, q2, Sz2, Nn2, Hs2, Ft2⟩ := id V_xb
  have hin2 : ¬ ((3 : Int32) < 0 ∨ cl2.slots.size ≤ ((3 : Int32)).toNatClampNeg) := inb_of Sz2 ⟨by decide, by decide⟩
  obtain ⟨T, h, X, e0, W2, st⟩ := stB X hx hZ e0 Ar2 (j := (3 : Int32)) hin2 (g := (mkF m 52 #[rv xb, iv 3, iv xp] [(iu8 xp), (.int 3), (.ref xb)])) rfl rfl (hb hby d22_52)
  have K := K.wr W2 (Or.inl (List.mem_of_getElem? (i := 0) rfl))
  have V_xb := Arv.set Ar2 q2 Sz2 Nn2 Hs2 Ft2 (fits_nar_byte _) W2 3 rfl (Nat.le_of_ble_eq_true rfl)
  rw [oB8 (xp >>> ((8 : Int32) &&& 31))] at V_xb
  replace V_xb : Arv Z h xb xk .byte (8 : Int32) [(.int xy0), (.int xy1), (iu0 xp), (iu8 xp), (.int xy4), (.int xy5), (.int xy6), (.int xy7)] (.int (0 : Int32)) := V_xb
  refine oWk.to (mkF m 53 #[rv xb, iv 3, iv xp] []) (fun _ kt => st _ kt) ?_
  exact oRetV X hx hlk hret (hb hby d22_53) (by rw [e0]; exact ⟨rfl, K, V_xb⟩) (by decide) (by decide)
def Q_rPut_4_2 (Z : State) (xb : Addr) (xk : ClassId) (xp xy0 xy1 xy2 xy3 xy4 xy5 xy6 xy7 : Int32) (h0 : Heap) (v : Option Value) (h : Heap) (L : List Loc) : Prop := v = none ∧ oKp h0 h [xb] L ∧ (Arv Z h xb xk .byte (8 : Int32) [(.int xy0), (.int xy1), (.int xy2), (.int xy3), (iu0 xp), (iu8 xp), (.int xy6), (.int xy7)] (.int (0 : Int32)))
theorem rPut_4_2 (l : Launch) (Z : State) (a0 : Array Value) (hw : oHW a0 Z) (ws : List Jvm.Cond) (xb : Addr) (xk : ClassId) (xp xy0 xy1 xy2 xy3 xy4 xy5 xy6 xy7 : Int32) (h0 : Heap) (O0 : Ext Z.heap h0) (S__assertionsDisabled : Sta Z Z.heap Y1 Y3 "Z" (.int (1 : Int32))) (S_HI_BYTE_SHIFT : Sta Z Z.heap Y1 "HI_BYTE_SHIFT" "I" (.int (0 : Int32))) (S_LO_BYTE_SHIFT : Sta Z Z.heap Y1 "LO_BYTE_SHIFT" "I" (.int (8 : Int32))) (og_xb : Z.heap.size ≤ xb) (V_xb : Arv Z h0 xb xk .byte (8 : Int32) [(.int xy0), (.int xy1), (.int xy2), (.int xy3), (.int xy4), (.int xy5), (.int xy6), (.int xy7)] (.int (0 : Int32))) :
    oCon l Z yy10 jdk_52_method_4_code 3 none ws ({ frames := 0, cells := 0, slots := 0, locals := 0 } : Room) #[(.ref xb), (.int (2 : Int32)), (.int xp)] h0 (Q_rPut_4_2 Z xb xk xp xy0 xy1 xy2 xy3 xy4 xy5 xy6 xy7 h0) := by
  refine oCon.of (plainFor_of_name pn_3) ?_
  intro p e s m below meth c T X hx hby hml hown hnm hret hlk hZ e0
  have hml : c.maxLocals = 3 := hml
  have K : oKp h0 h0 [xb] [] := oKp.nil _ _
  refine oWk.cast (g' := (mkF m 0 #[rv xb, iv 2, iv xp] [])) (by first | rfl | (simp [entryFrame, mkF, argsToLocals, Value.category]; done)) ?_
  have Oh := K.old O0 (allS og_xb all0)
  obtain ⟨T, X, e0, st⟩ := getS2 X hx hZ hown (host := "") (Or.inl (oW hw 100 rfl)) Via.refl e0 (S__assertionsDisabled.ext Oh) (g := (mkF m 0 #[rv xb, iv 2, iv xp] [])) rfl (hb hby d22_0)
  refine oWk.to (mkF m 33 #[rv xb, iv 4, iv xp] [(.ref xb)]) (fun _ kt => st _ (zF X hx hby d22_3 rfl rfl ((if0 _ _).trans (feq (by decide)).2) (pc' := 28) rfl (zI X hx hby d22_28 rfl rfl (zK X hx hby d22_29 rfl (XS.ishl X.here hx rfl (hb hby d22_30) rfl (zSn X hx hby d22_31 rfl rfl (l' := #[rv xb, iv 4, iv xp]) rfl (zA X hx hby d22_32 rfl rfl rfl kt))))))) ?_
  refine oWk.st (fun _ kt => zI X hx hby d22_33 rfl rfl (zC X hx hby d22_34 rfl rfl (l' := #[rv xb, iv ((4 : Int32) + (1 : Int32)), iv xp]) rfl (zI X hx hby d22_37 rfl rfl kt))) ?_
  obtain ⟨T, X, e0, st⟩ := getS2 X hx hZ hown (host := "") (Or.inl (oW hw 101 rfl)) Via.refl e0 (S_HI_BYTE_SHIFT.ext Oh) (g := (mkF m 38 #[rv xb, iv 5, iv xp] [(.int xp), (.int 4), (.ref xb)])) rfl (hb hby d22_38)
  refine oWk.st (fun _ kt => st _ (XS.ishr X.here hx rfl (hb hby d22_41) rfl (XS.i2b X.here hx rfl (hb hby d22_42) rfl kt))) ?_
  obtain ⟨cl1, Ar1, q1, Sz1, Nn1, Hs1, Ft1⟩ := id V_xb
  have hin1 : ¬ ((4 : Int32) < 0 ∨ cl1.slots.size ≤ ((4 : Int32)).toNatClampNeg) := inb_of Sz1 ⟨by decide, by decide⟩
  obtain ⟨T, h, X, e0, W1, st⟩ := stB X hx hZ e0 Ar1 (j := (4 : Int32)) hin1 (g := (mkF m 43 #[rv xb, iv 5, iv xp] [(iu0 xp), (.int 4), (.ref xb)])) rfl rfl (hb hby d22_43)
  have K := K.wr W1 (Or.inl (List.mem_of_getElem? (i := 0) rfl))
  have V_xb := Arv.set Ar1 q1 Sz1 Nn1 Hs1 Ft1 (fits_nar_byte _) W1 4 rfl (Nat.le_of_ble_eq_true rfl)
  rw [oB8 (xp >>> ((0 : Int32) &&& 31))] at V_xb
  replace V_xb : Arv Z h xb xk .byte (8 : Int32) [(.int xy0), (.int xy1), (.int xy2), (.int xy3), (iu0 xp), (.int xy5), (.int xy6), (.int xy7)] (.int (0 : Int32)) := V_xb
  refine oWk.st (fun _ kt => st _ (zA X hx hby d22_44 rfl rfl rfl (zI X hx hby d22_45 rfl rfl (zI X hx hby d22_46 rfl rfl kt)))) ?_
  have Oh := K.old O0 (allS og_xb all0)
  obtain ⟨T, X, e0, st⟩ := getS2 X hx hZ hown (host := "") (Or.inl (oW hw 102 rfl)) Via.refl e0 (S_LO_BYTE_SHIFT.ext Oh) (g := (mkF m 47 #[rv xb, iv 5, iv xp] [(.int xp), (.int 5), (.ref xb)])) rfl (hb hby d22_47)
  refine oWk.st (fun _ kt => st _ (XS.ishr X.here hx rfl (hb hby d22_50) rfl (XS.i2b X.here hx rfl (hb hby d22_51) rfl kt))) ?_
  obtain ⟨cl2, Ar2, q2, Sz2, Nn2, Hs2, Ft2⟩ := id V_xb
  have hin2 : ¬ ((5 : Int32) < 0 ∨ cl2.slots.size ≤ ((5 : Int32)).toNatClampNeg) := inb_of Sz2 ⟨by decide, by decide⟩
  obtain ⟨T, h, X, e0, W2, st⟩ := stB X hx hZ e0 Ar2 (j := (5 : Int32)) hin2 (g := (mkF m 52 #[rv xb, iv 5, iv xp] [(iu8 xp), (.int 5), (.ref xb)])) rfl rfl (hb hby d22_52)
  have K := K.wr W2 (Or.inl (List.mem_of_getElem? (i := 0) rfl))
  have V_xb := Arv.set Ar2 q2 Sz2 Nn2 Hs2 Ft2 (fits_nar_byte _) W2 5 rfl (Nat.le_of_ble_eq_true rfl)
  rw [oB8 (xp >>> ((8 : Int32) &&& 31))] at V_xb
  replace V_xb : Arv Z h xb xk .byte (8 : Int32) [(.int xy0), (.int xy1), (.int xy2), (.int xy3), (iu0 xp), (iu8 xp), (.int xy6), (.int xy7)] (.int (0 : Int32)) := V_xb
  refine oWk.to (mkF m 53 #[rv xb, iv 5, iv xp] []) (fun _ kt => st _ kt) ?_
  exact oRetV X hx hlk hret (hb hby d22_53) (by rw [e0]; exact ⟨rfl, K, V_xb⟩) (by decide) (by decide)
def Q_rPut_4_3 (Z : State) (xb : Addr) (xk : ClassId) (xp xy0 xy1 xy2 xy3 xy4 xy5 xy6 xy7 : Int32) (h0 : Heap) (v : Option Value) (h : Heap) (L : List Loc) : Prop := v = none ∧ oKp h0 h [xb] L ∧ (Arv Z h xb xk .byte (8 : Int32) [(.int xy0), (.int xy1), (.int xy2), (.int xy3), (.int xy4), (.int xy5), (iu0 xp), (iu8 xp)] (.int (0 : Int32)))
theorem rPut_4_3 (l : Launch) (Z : State) (a0 : Array Value) (hw : oHW a0 Z) (ws : List Jvm.Cond) (xb : Addr) (xk : ClassId) (xp xy0 xy1 xy2 xy3 xy4 xy5 xy6 xy7 : Int32) (h0 : Heap) (O0 : Ext Z.heap h0) (S__assertionsDisabled : Sta Z Z.heap Y1 Y3 "Z" (.int (1 : Int32))) (S_HI_BYTE_SHIFT : Sta Z Z.heap Y1 "HI_BYTE_SHIFT" "I" (.int (0 : Int32))) (S_LO_BYTE_SHIFT : Sta Z Z.heap Y1 "LO_BYTE_SHIFT" "I" (.int (8 : Int32))) (og_xb : Z.heap.size ≤ xb) (V_xb : Arv Z h0 xb xk .byte (8 : Int32) [(.int xy0), (.int xy1), (.int xy2), (.int xy3), (.int xy4), (.int xy5), (.int xy6), (.int xy7)] (.int (0 : Int32))) :
    oCon l Z yy10 jdk_52_method_4_code 3 none ws ({ frames := 0, cells := 0, slots := 0, locals := 0 } : Room) #[(.ref xb), (.int (3 : Int32)), (.int xp)] h0 (Q_rPut_4_3 Z xb xk xp xy0 xy1 xy2 xy3 xy4 xy5 xy6 xy7 h0) := by
  refine oCon.of (plainFor_of_name pn_3) ?_
  intro p e s m below meth c T X hx hby hml hown hnm hret hlk hZ e0
  have hml : c.maxLocals = 3 := hml
  have K : oKp h0 h0 [xb] [] := oKp.nil _ _
  refine oWk.cast (g' := (mkF m 0 #[rv xb, iv 3, iv xp] [])) (by first | rfl | (simp [entryFrame, mkF, argsToLocals, Value.category]; done)) ?_
  have Oh := K.old O0 (allS og_xb all0)
  obtain ⟨T, X, e0, st⟩ := getS2 X hx hZ hown (host := "") (Or.inl (oW hw 100 rfl)) Via.refl e0 (S__assertionsDisabled.ext Oh) (g := (mkF m 0 #[rv xb, iv 3, iv xp] [])) rfl (hb hby d22_0)
  refine oWk.to (mkF m 33 #[rv xb, iv 6, iv xp] [(.ref xb)]) (fun _ kt => st _ (zF X hx hby d22_3 rfl rfl ((if0 _ _).trans (feq (by decide)).2) (pc' := 28) rfl (zI X hx hby d22_28 rfl rfl (zK X hx hby d22_29 rfl (XS.ishl X.here hx rfl (hb hby d22_30) rfl (zSn X hx hby d22_31 rfl rfl (l' := #[rv xb, iv 6, iv xp]) rfl (zA X hx hby d22_32 rfl rfl rfl kt))))))) ?_
  refine oWk.st (fun _ kt => zI X hx hby d22_33 rfl rfl (zC X hx hby d22_34 rfl rfl (l' := #[rv xb, iv ((6 : Int32) + (1 : Int32)), iv xp]) rfl (zI X hx hby d22_37 rfl rfl kt))) ?_
  obtain ⟨T, X, e0, st⟩ := getS2 X hx hZ hown (host := "") (Or.inl (oW hw 101 rfl)) Via.refl e0 (S_HI_BYTE_SHIFT.ext Oh) (g := (mkF m 38 #[rv xb, iv 7, iv xp] [(.int xp), (.int 6), (.ref xb)])) rfl (hb hby d22_38)
  refine oWk.st (fun _ kt => st _ (XS.ishr X.here hx rfl (hb hby d22_41) rfl (XS.i2b X.here hx rfl (hb hby d22_42) rfl kt))) ?_
  obtain ⟨cl1, Ar1, q1, Sz1, Nn1, Hs1, Ft1⟩ := id V_xb
  have hin1 : ¬ ((6 : Int32) < 0 ∨ cl1.slots.size ≤ ((6 : Int32)).toNatClampNeg) := inb_of Sz1 ⟨by decide, by decide⟩
  obtain ⟨T, h, X, e0, W1, st⟩ := stB X hx hZ e0 Ar1 (j := (6 : Int32)) hin1 (g := (mkF m 43 #[rv xb, iv 7, iv xp] [(iu0 xp), (.int 6), (.ref xb)])) rfl rfl (hb hby d22_43)
  have K := K.wr W1 (Or.inl (List.mem_of_getElem? (i := 0) rfl))
  have V_xb := Arv.set Ar1 q1 Sz1 Nn1 Hs1 Ft1 (fits_nar_byte _) W1 6 rfl (Nat.le_of_ble_eq_true rfl)
  rw [oB8 (xp >>> ((0 : Int32) &&& 31))] at V_xb
  replace V_xb : Arv Z h xb xk .byte (8 : Int32) [(.int xy0), (.int xy1), (.int xy2), (.int xy3), (.int xy4), (.int xy5), (iu0 xp), (.int xy7)] (.int (0 : Int32)) := V_xb
  refine oWk.st (fun _ kt => st _ (zA X hx hby d22_44 rfl rfl rfl (zI X hx hby d22_45 rfl rfl (zI X hx hby d22_46 rfl rfl kt)))) ?_
  have Oh := K.old O0 (allS og_xb all0)
  obtain ⟨T, X, e0, st⟩ := getS2 X hx hZ hown (host := "") (Or.inl (oW hw 102 rfl)) Via.refl e0 (S_LO_BYTE_SHIFT.ext Oh) (g := (mkF m 47 #[rv xb, iv 7, iv xp] [(.int xp), (.int 7), (.ref xb)])) rfl (hb hby d22_47)
  refine oWk.st (fun _ kt => st _ (XS.ishr X.here hx rfl (hb hby d22_50) rfl (XS.i2b X.here hx rfl (hb hby d22_51) rfl kt))) ?_
  obtain ⟨cl2, Ar2, q2, Sz2, Nn2, Hs2, Ft2⟩ := id V_xb
  have hin2 : ¬ ((7 : Int32) < 0 ∨ cl2.slots.size ≤ ((7 : Int32)).toNatClampNeg) := inb_of Sz2 ⟨by decide, by decide⟩
  obtain ⟨T, h, X, e0, W2, st⟩ := stB X hx hZ e0 Ar2 (j := (7 : Int32)) hin2 (g := (mkF m 52 #[rv xb, iv 7, iv xp] [(iu8 xp), (.int 7), (.ref xb)])) rfl rfl (hb hby d22_52)
  have K := K.wr W2 (Or.inl (List.mem_of_getElem? (i := 0) rfl))
  have V_xb := Arv.set Ar2 q2 Sz2 Nn2 Hs2 Ft2 (fits_nar_byte _) W2 7 rfl (Nat.le_of_ble_eq_true rfl)
  rw [oB8 (xp >>> ((8 : Int32) &&& 31))] at V_xb
  replace V_xb : Arv Z h xb xk .byte (8 : Int32) [(.int xy0), (.int xy1), (.int xy2), (.int xy3), (.int xy4), (.int xy5), (iu0 xp), (iu8 xp)] (.int (0 : Int32)) := V_xb
  refine oWk.to (mkF m 53 #[rv xb, iv 7, iv xp] []) (fun _ kt => st _ kt) ?_
  exact oRetV X hx hlk hret (hb hby d22_53) (by rw [e0]; exact ⟨rfl, K, V_xb⟩) (by decide) (by decide)
def Q_rTBU_4 (Z : State) (xa : Addr) (xk : ClassId) (xc0 xc1 xc2 xc3 : Int32) (h0 : Heap) (v : Option Value) (h : Heap) (L : List Loc) : Prop := ∃ (nb : Addr) (nk : ClassId), v = some (.ref nb) ∧ oKp h0 h [] L ∧ (h0.size ≤ nb) ∧ (Arv Z h nb nk .byte (8 : Int32) [(iu0 xc0), (iu8 xc0), (iu0 xc1), (iu8 xc1), (iu0 xc2), (iu8 xc2), (iu0 xc3), (iu8 xc3)] (.int (0 : Int32)))
theorem rTBU_4 (l : Launch) (Z : State) (a0 : Array Value) (hw : oHW a0 Z) (ws : List Jvm.Cond) (xa : Addr) (xk : ClassId) (xc0 xc1 xc2 xc3 : Int32) (h0 : Heap) (O0 : Ext Z.heap h0) (S__assertionsDisabled : Sta Z Z.heap Y1 Y3 "Z" (.int (1 : Int32))) (S_HI_BYTE_SHIFT : Sta Z Z.heap Y1 "HI_BYTE_SHIFT" "I" (.int (0 : Int32))) (S_LO_BYTE_SHIFT : Sta Z Z.heap Y1 "LO_BYTE_SHIFT" "I" (.int (8 : Int32))) (V_xa : Arv Z h0 xa xk .char (4 : Int32) [(.int xc0), (.int xc1), (.int xc2), (.int xc3)] (.int (0 : Int32))) :
    oCon l Z yy11 jdk_52_method_14_code 5 (some (.array .byte)) ws ({ frames := 2, cells := 1, slots := 8, locals := 24 } : Room) #[(.ref xa), (.int (0 : Int32)), (.int (4 : Int32))] h0 (Q_rTBU_4 Z xa xk xc0 xc1 xc2 xc3 h0) := by
  refine oCon.of (plainFor_of_name pn_3) ?_
  intro p e s m below meth c T X hx hby hml hown hnm hret hlk hZ e0
  have hml : c.maxLocals = 5 := hml
  have K : oKp h0 h0 [] [] := oKp.nil _ _
  refine oWk.cast (g' := (mkF m 0 #[rv xa, iv 0, iv 4, uu, uu] [])) (by first | rfl | (simp [entryFrame, mkF, argsToLocals, Value.category]; done)) ?_
  refine oWk.st (fun _ kt => zI X hx hby d19_0 rfl rfl kt) ?_
  have lt_xa := V_xa.lt
  have Oh := K.old O0 all0
  obtain ⟨_, T, h, Lc2, X, e0, hQ, st⟩ := (cs6 hw).run X hx hZ hown e0 (A := [(.int (4 : Int32))]) rfl (rNBF_4 l Z a0 hw []  h0 Oh ) (W := 0) (by decide) hml (Ls := #[rv xa, iv 0, iv 4, uu, uu]) rfl (rest := []) rfl rfl hby d19_1
  obtain ⟨nb1, nk1, rfl, K1, gn_nb1, V_nb1⟩ := hQ
  have ge_nb1 := Nat.le_trans K.le gn_nb1
  have ne_xa_nb1 : xa ≠ nb1 := Nat.ne_of_lt (Nat.lt_of_lt_of_le lt_xa gn_nb1)
  have K := K.call K1 all0
  refine oWk.to (mkF m 14 #[rv xa, iv 0, iv 4, rv nb1, iv 0] []) (fun _ kt => st _ (zTn X hx hby d19_4 rfl rfl rfl (l' := #[rv xa, iv 0, iv 4, rv nb1, uu]) rfl (zK X hx hby d19_5 rfl (zS X hx hby d19_6 rfl rfl (l' := #[rv xa, iv 0, iv 4, rv nb1, iv 0]) rfl (zJ X hx hby d19_8 rfl rfl (zI X hx hby d19_10 rfl rfl (zN X hx hby d19_11 rfl rfl (tlt (by decide)).2.1 kt))))))) ?_
  refine oWk.st (fun _ kt => zA X hx hby d19_14 rfl rfl rfl (zJ X hx hby d19_15 rfl rfl (zA X hx hby d19_17 rfl rfl rfl (zI X hx hby d19_18 rfl rfl kt)))) ?_
  have V_xa := (V_xa.keep K1.1 nin0)
  refine oWk.st (fun _ kt => oLdC X hx hZ e0 V_xa (0 : Int32) (.int xc0) ⟨by decide, by decide⟩ rfl hby d19_19 rfl rfl kt) ?_
  have Oh := K.old O0 all0
  obtain ⟨_, T, h, Lc5, X, e0, hQ, st⟩ := (cs7 hw).run X hx hZ hown e0 (A := [(.ref nb1), (.int (0 : Int32)), (.int xc0)]) rfl (rPut_4_0 l Z a0 hw [] nb1 nk1 xc0 (0 : Int32) (0 : Int32) (0 : Int32) (0 : Int32) (0 : Int32) (0 : Int32) (0 : Int32) (0 : Int32) h Oh S__assertionsDisabled S_HI_BYTE_SHIFT S_LO_BYTE_SHIFT (Nat.le_trans O0.1 ge_nb1) V_nb1) (W := 0) (by decide) hml (Ls := #[rv xa, iv 0, iv 4, rv nb1, iv 0]) rfl (rest := []) rfl rfl hby d19_20
  obtain ⟨rfl, K4, V_nb1⟩ := hQ
  have K := K.call K4 (allS (Or.inr ge_nb1) all0)
  refine oWk.to (mkF m 14 #[rv xa, iv 1, iv 4, rv nb1, iv 1] []) (fun _ kt => st _ (zC X hx hby d19_23 rfl rfl (l' := #[rv xa, iv ((0 : Int32) + (1 : Int32)), iv 4, rv nb1, iv 0]) rfl (zC X hx hby d19_26 rfl rfl (l' := #[rv xa, iv 1, iv 4, rv nb1, iv ((0 : Int32) + (1 : Int32))]) rfl (zG X hx hby d19_29 rfl (pc' := 8) rfl (zJ X hx hby d19_8 rfl rfl (zI X hx hby d19_10 rfl rfl (zN X hx hby d19_11 rfl rfl (tlt (by decide)).2.1 kt))))))) ?_
  refine oWk.st (fun _ kt => zA X hx hby d19_14 rfl rfl rfl (zJ X hx hby d19_15 rfl rfl (zA X hx hby d19_17 rfl rfl rfl (zI X hx hby d19_18 rfl rfl kt)))) ?_
  have V_xa := (V_xa.keep K4.1 (ninS ne_xa_nb1 nin0))
  refine oWk.st (fun _ kt => oLdC X hx hZ e0 V_xa (1 : Int32) (.int xc1) ⟨by decide, by decide⟩ rfl hby d19_19 rfl rfl kt) ?_
  have Oh := K.old O0 all0
  obtain ⟨_, T, h, Lc8, X, e0, hQ, st⟩ := (cs7 hw).run X hx hZ hown e0 (A := [(.ref nb1), (.int (1 : Int32)), (.int xc1)]) rfl (rPut_4_1 l Z a0 hw [] nb1 nk1 xc1 ((xc0 >>> ((0 : Int32) &&& 31)).toInt8.toInt32) ((xc0 >>> ((8 : Int32) &&& 31)).toInt8.toInt32) (0 : Int32) (0 : Int32) (0 : Int32) (0 : Int32) (0 : Int32) (0 : Int32) h Oh S__assertionsDisabled S_HI_BYTE_SHIFT S_LO_BYTE_SHIFT (Nat.le_trans O0.1 ge_nb1) V_nb1) (W := 0) (by decide) hml (Ls := #[rv xa, iv 1, iv 4, rv nb1, iv 1]) rfl (rest := []) rfl rfl hby d19_20
  obtain ⟨rfl, K7, V_nb1⟩ := hQ
  have K := K.call K7 (allS (Or.inr ge_nb1) all0)
  refine oWk.to (mkF m 14 #[rv xa, iv 2, iv 4, rv nb1, iv 2] []) (fun _ kt => st _ (zC X hx hby d19_23 rfl rfl (l' := #[rv xa, iv ((1 : Int32) + (1 : Int32)), iv 4, rv nb1, iv 1]) rfl (zC X hx hby d19_26 rfl rfl (l' := #[rv xa, iv 2, iv 4, rv nb1, iv ((1 : Int32) + (1 : Int32))]) rfl (zG X hx hby d19_29 rfl (pc' := 8) rfl (zJ X hx hby d19_8 rfl rfl (zI X hx hby d19_10 rfl rfl (zN X hx hby d19_11 rfl rfl (tlt (by decide)).2.1 kt))))))) ?_
  refine oWk.st (fun _ kt => zA X hx hby d19_14 rfl rfl rfl (zJ X hx hby d19_15 rfl rfl (zA X hx hby d19_17 rfl rfl rfl (zI X hx hby d19_18 rfl rfl kt)))) ?_
  have V_xa := (V_xa.keep K7.1 (ninS ne_xa_nb1 nin0))
  refine oWk.st (fun _ kt => oLdC X hx hZ e0 V_xa (2 : Int32) (.int xc2) ⟨by decide, by decide⟩ rfl hby d19_19 rfl rfl kt) ?_
  have Oh := K.old O0 all0
  obtain ⟨_, T, h, Lc11, X, e0, hQ, st⟩ := (cs7 hw).run X hx hZ hown e0 (A := [(.ref nb1), (.int (2 : Int32)), (.int xc2)]) rfl (rPut_4_2 l Z a0 hw [] nb1 nk1 xc2 ((xc0 >>> ((0 : Int32) &&& 31)).toInt8.toInt32) ((xc0 >>> ((8 : Int32) &&& 31)).toInt8.toInt32) ((xc1 >>> ((0 : Int32) &&& 31)).toInt8.toInt32) ((xc1 >>> ((8 : Int32) &&& 31)).toInt8.toInt32) (0 : Int32) (0 : Int32) (0 : Int32) (0 : Int32) h Oh S__assertionsDisabled S_HI_BYTE_SHIFT S_LO_BYTE_SHIFT (Nat.le_trans O0.1 ge_nb1) V_nb1) (W := 0) (by decide) hml (Ls := #[rv xa, iv 2, iv 4, rv nb1, iv 2]) rfl (rest := []) rfl rfl hby d19_20
  obtain ⟨rfl, K10, V_nb1⟩ := hQ
  have K := K.call K10 (allS (Or.inr ge_nb1) all0)
  refine oWk.to (mkF m 14 #[rv xa, iv 3, iv 4, rv nb1, iv 3] []) (fun _ kt => st _ (zC X hx hby d19_23 rfl rfl (l' := #[rv xa, iv ((2 : Int32) + (1 : Int32)), iv 4, rv nb1, iv 2]) rfl (zC X hx hby d19_26 rfl rfl (l' := #[rv xa, iv 3, iv 4, rv nb1, iv ((2 : Int32) + (1 : Int32))]) rfl (zG X hx hby d19_29 rfl (pc' := 8) rfl (zJ X hx hby d19_8 rfl rfl (zI X hx hby d19_10 rfl rfl (zN X hx hby d19_11 rfl rfl (tlt (by decide)).2.1 kt))))))) ?_
  refine oWk.st (fun _ kt => zA X hx hby d19_14 rfl rfl rfl (zJ X hx hby d19_15 rfl rfl (zA X hx hby d19_17 rfl rfl rfl (zI X hx hby d19_18 rfl rfl kt)))) ?_
  have V_xa := (V_xa.keep K10.1 (ninS ne_xa_nb1 nin0))
  refine oWk.st (fun _ kt => oLdC X hx hZ e0 V_xa (3 : Int32) (.int xc3) ⟨by decide, by decide⟩ rfl hby d19_19 rfl rfl kt) ?_
  have Oh := K.old O0 all0
  obtain ⟨_, T, h, Lc14, X, e0, hQ, st⟩ := (cs7 hw).run X hx hZ hown e0 (A := [(.ref nb1), (.int (3 : Int32)), (.int xc3)]) rfl (rPut_4_3 l Z a0 hw [] nb1 nk1 xc3 ((xc0 >>> ((0 : Int32) &&& 31)).toInt8.toInt32) ((xc0 >>> ((8 : Int32) &&& 31)).toInt8.toInt32) ((xc1 >>> ((0 : Int32) &&& 31)).toInt8.toInt32) ((xc1 >>> ((8 : Int32) &&& 31)).toInt8.toInt32) ((xc2 >>> ((0 : Int32) &&& 31)).toInt8.toInt32) ((xc2 >>> ((8 : Int32) &&& 31)).toInt8.toInt32) (0 : Int32) (0 : Int32) h Oh S__assertionsDisabled S_HI_BYTE_SHIFT S_LO_BYTE_SHIFT (Nat.le_trans O0.1 ge_nb1) V_nb1) (W := 0) (by decide) hml (Ls := #[rv xa, iv 3, iv 4, rv nb1, iv 3]) rfl (rest := []) rfl rfl hby d19_20
  obtain ⟨rfl, K13, V_nb1⟩ := hQ
  have K := K.call K13 (allS (Or.inr ge_nb1) all0)
  refine oWk.to (mkF m 32 #[rv xa, iv 4, iv 4, rv nb1, iv 4] []) (fun _ kt => st _ (zC X hx hby d19_23 rfl rfl (l' := #[rv xa, iv ((3 : Int32) + (1 : Int32)), iv 4, rv nb1, iv 3]) rfl (zC X hx hby d19_26 rfl rfl (l' := #[rv xa, iv 4, iv 4, rv nb1, iv ((3 : Int32) + (1 : Int32))]) rfl (zG X hx hby d19_29 rfl (pc' := 8) rfl (zJ X hx hby d19_8 rfl rfl (zI X hx hby d19_10 rfl rfl (zY X hx hby d19_11 rfl rfl (flt (by decide)).2.1 (pc' := 32) rfl kt))))))) ?_
  refine oWk.to (mkF m 33 #[rv xa, iv 4, iv 4, rv nb1, iv 4] [(.ref nb1)]) (fun _ kt => zA X hx hby d19_32 rfl rfl rfl kt) ?_
  exact oRetA X hx hlk hret rfl rfl (hb hby d19_33) (by rw [e0]; exact ⟨nb1, nk1, rfl, K, ge_nb1, V_nb1⟩) (by decide) (by decide)
def Q_rGC_4_0 (Z : State) (xb : Addr) (xk : ClassId) (xc0 xc1 xc2 xc3 : Int32) (h0 : Heap) (v : Option Value) (h : Heap) (L : List Loc) : Prop := v = some (.int xc0) ∧ h = h0 ∧ oKp h0 h [] L
theorem rGC_4_0 (l : Launch) (Z : State) (a0 : Array Value) (hw : oHW a0 Z) (ws : List Jvm.Cond) (xb : Addr) (xk : ClassId) (xc0 xc1 xc2 xc3 : Int32) (h0 : Heap) (O0 : Ext Z.heap h0) (S__assertionsDisabled : Sta Z Z.heap Y1 Y3 "Z" (.int (1 : Int32))) (S_HI_BYTE_SHIFT : Sta Z Z.heap Y1 "HI_BYTE_SHIFT" "I" (.int (0 : Int32))) (S_LO_BYTE_SHIFT : Sta Z Z.heap Y1 "LO_BYTE_SHIFT" "I" (.int (8 : Int32))) (hr : 0 ≤ xc0.toInt ∧ xc0.toInt < 65536) (V_xb : Arv Z h0 xb xk .byte (8 : Int32) [(iu0 xc0), (iu8 xc0), (iu0 xc1), (iu8 xc1), (iu0 xc2), (iu8 xc2), (iu0 xc3), (iu8 xc3)] (.int (0 : Int32))) :
    oCon l Z yy12 jdk_52_method_5_code 2 (some .char) ws ({ frames := 0, cells := 0, slots := 0, locals := 0 } : Room) #[(.ref xb), (.int (0 : Int32))] h0 (Q_rGC_4_0 Z xb xk xc0 xc1 xc2 xc3 h0) := by
  refine oCon.of (plainFor_of_name pn_3) ?_
  intro p e s m below meth c T X hx hby hml hown hnm hret hlk hZ e0
  have hml : c.maxLocals = 2 := hml
  have K : oKp h0 h0 [] [] := oKp.nil _ _
  refine oWk.cast (g' := (mkF m 0 #[rv xb, iv 0] [])) (by first | rfl | (simp [entryFrame, mkF, argsToLocals, Value.category]; done)) ?_
  have Oh := K.old O0 all0
  obtain ⟨T, X, e0, st⟩ := getS2 X hx hZ hown (host := "") (Or.inl (oW hw 100 rfl)) Via.refl e0 (S__assertionsDisabled.ext Oh) (g := (mkF m 0 #[rv xb, iv 0] [])) rfl (hb hby d23_0)
  refine oWk.to (mkF m 33 #[rv xb, iv 0] [(.ref xb)]) (fun _ kt => st _ (zF X hx hby d23_3 rfl rfl ((if0 _ _).trans (feq (by decide)).2) (pc' := 28) rfl (zI X hx hby d23_28 rfl rfl (zK X hx hby d23_29 rfl (XS.ishl X.here hx rfl (hb hby d23_30) rfl (zSn X hx hby d23_31 rfl rfl (l' := #[rv xb, iv 0]) rfl (zA X hx hby d23_32 rfl rfl rfl kt))))))) ?_
  refine oWk.st (fun _ kt => zI X hx hby d23_33 rfl rfl (zC X hx hby d23_34 rfl rfl (l' := #[rv xb, iv ((0 : Int32) + (1 : Int32))]) rfl (oLdB X hx hZ e0 V_xb (0 : Int32) (iu0 xc0) ⟨by decide, by decide⟩ rfl hby d23_37 rfl rfl (zM X hx hby d23_38 rfl (XS.iand X.here hx rfl (hb hby d23_41) rfl kt))))) ?_
  obtain ⟨T, X, e0, st⟩ := getS2 X hx hZ hown (host := "") (Or.inl (oW hw 101 rfl)) Via.refl e0 (S_HI_BYTE_SHIFT.ext Oh) (g := (mkF m 42 #[rv xb, iv 1] [(.int (((xc0 >>> ((0 : Int32) &&& 31)).toInt8.toInt32) &&& (255 : Int32)))])) rfl (hb hby d23_42)
  refine oWk.to (mkF m 53 #[rv xb, iv 1] [(.int (((xc0 >>> ((8 : Int32) &&& 31)).toInt8.toInt32) &&& (255 : Int32))), (.int ((((xc0 >>> ((0 : Int32) &&& 31)).toInt8.toInt32) &&& (255 : Int32)) <<< ((0 : Int32) &&& 31)))]) (fun _ kt => st _ (XS.ishl X.here hx rfl (hb hby d23_45) rfl (zA X hx hby d23_46 rfl rfl rfl (zI X hx hby d23_47 rfl rfl (oLdB X hx hZ e0 V_xb (1 : Int32) (iu8 xc0) ⟨by decide, by decide⟩ rfl hby d23_48 rfl rfl (zM X hx hby d23_49 rfl (XS.iand X.here hx rfl (hb hby d23_52) rfl kt))))))) ?_
  obtain ⟨T, X, e0, st⟩ := getS2 X hx hZ hown (host := "") (Or.inl (oW hw 102 rfl)) Via.refl e0 (S_LO_BYTE_SHIFT.ext Oh) (g := (mkF m 53 #[rv xb, iv 1] [(.int (((xc0 >>> ((8 : Int32) &&& 31)).toInt8.toInt32) &&& (255 : Int32))), (.int ((((xc0 >>> ((0 : Int32) &&& 31)).toInt8.toInt32) &&& (255 : Int32)) <<< ((0 : Int32) &&& 31)))])) rfl (hb hby d23_53)
  refine oWk.to (mkF m 59 #[rv xb, iv 1] [(.int ((((((xc0 >>> ((0 : Int32) &&& 31)).toInt8.toInt32) &&& (255 : Int32)) <<< ((0 : Int32) &&& 31)) ||| ((((xc0 >>> ((8 : Int32) &&& 31)).toInt8.toInt32) &&& (255 : Int32)) <<< ((8 : Int32) &&& 31))).toUInt32.toUInt16.toUInt32.toInt32))]) (fun _ kt => st _ (XS.ishl X.here hx rfl (hb hby d23_56) rfl (XS.ior X.here hx rfl (hb hby d23_57) rfl (XS.i2c X.here hx rfl (hb hby d23_58) rfl kt)))) ?_
  show oWk _ _ _ _ T (mkF m 59 #[rv xb, iv 1] [(.int ((((((xc0 >>> ((0 : Int32) &&& 31)).toInt8.toInt32) &&& (255 : Int32)) <<< ((0 : Int32) &&& 31)) ||| ((((xc0 >>> ((8 : Int32) &&& 31)).toInt8.toInt32) &&& (255 : Int32)) <<< ((8 : Int32) &&& 31))).toUInt32.toUInt16.toUInt32.toInt32))])
  rw [oU16 hr]
  show oWk _ _ _ _ T (mkF m 59 #[rv xb, iv 1] [(.int xc0)])
  exact oRetN X hx hlk hret (Or.inr (Or.inl rfl)) (show narrow .char (.int xc0) = .int xc0 from congrArg Value.int (oChrU hr)) (hb hby d23_59) (by rw [e0]; exact ⟨rfl, rfl, K⟩) (by decide) (by decide)
def Q_rGC_4_1 (Z : State) (xb : Addr) (xk : ClassId) (xc0 xc1 xc2 xc3 : Int32) (h0 : Heap) (v : Option Value) (h : Heap) (L : List Loc) : Prop := v = some (.int xc1) ∧ h = h0 ∧ oKp h0 h [] L
theorem rGC_4_1 (l : Launch) (Z : State) (a0 : Array Value) (hw : oHW a0 Z) (ws : List Jvm.Cond) (xb : Addr) (xk : ClassId) (xc0 xc1 xc2 xc3 : Int32) (h0 : Heap) (O0 : Ext Z.heap h0) (S__assertionsDisabled : Sta Z Z.heap Y1 Y3 "Z" (.int (1 : Int32))) (S_HI_BYTE_SHIFT : Sta Z Z.heap Y1 "HI_BYTE_SHIFT" "I" (.int (0 : Int32))) (S_LO_BYTE_SHIFT : Sta Z Z.heap Y1 "LO_BYTE_SHIFT" "I" (.int (8 : Int32))) (hr : 0 ≤ xc1.toInt ∧ xc1.toInt < 65536) (V_xb : Arv Z h0 xb xk .byte (8 : Int32) [(iu0 xc0), (iu8 xc0), (iu0 xc1), (iu8 xc1), (iu0 xc2), (iu8 xc2), (iu0 xc3), (iu8 xc3)] (.int (0 : Int32))) :
    oCon l Z yy12 jdk_52_method_5_code 2 (some .char) ws ({ frames := 0, cells := 0, slots := 0, locals := 0 } : Room) #[(.ref xb), (.int (1 : Int32))] h0 (Q_rGC_4_1 Z xb xk xc0 xc1 xc2 xc3 h0) := by
  refine oCon.of (plainFor_of_name pn_3) ?_
  intro p e s m below meth c T X hx hby hml hown hnm hret hlk hZ e0
  have hml : c.maxLocals = 2 := hml
  have K : oKp h0 h0 [] [] := oKp.nil _ _
  refine oWk.cast (g' := (mkF m 0 #[rv xb, iv 1] [])) (by first | rfl | (simp [entryFrame, mkF, argsToLocals, Value.category]; done)) ?_
  have Oh := K.old O0 all0
  obtain ⟨T, X, e0, st⟩ := getS2 X hx hZ hown (host := "") (Or.inl (oW hw 100 rfl)) Via.refl e0 (S__assertionsDisabled.ext Oh) (g := (mkF m 0 #[rv xb, iv 1] [])) rfl (hb hby d23_0)
  refine oWk.to (mkF m 33 #[rv xb, iv 2] [(.ref xb)]) (fun _ kt => st _ (zF X hx hby d23_3 rfl rfl ((if0 _ _).trans (feq (by decide)).2) (pc' := 28) rfl (zI X hx hby d23_28 rfl rfl (zK X hx hby d23_29 rfl (XS.ishl X.here hx rfl (hb hby d23_30) rfl (zSn X hx hby d23_31 rfl rfl (l' := #[rv xb, iv 2]) rfl (zA X hx hby d23_32 rfl rfl rfl kt))))))) ?_
  refine oWk.st (fun _ kt => zI X hx hby d23_33 rfl rfl (zC X hx hby d23_34 rfl rfl (l' := #[rv xb, iv ((2 : Int32) + (1 : Int32))]) rfl (oLdB X hx hZ e0 V_xb (2 : Int32) (iu0 xc1) ⟨by decide, by decide⟩ rfl hby d23_37 rfl rfl (zM X hx hby d23_38 rfl (XS.iand X.here hx rfl (hb hby d23_41) rfl kt))))) ?_
  obtain ⟨T, X, e0, st⟩ := getS2 X hx hZ hown (host := "") (Or.inl (oW hw 101 rfl)) Via.refl e0 (S_HI_BYTE_SHIFT.ext Oh) (g := (mkF m 42 #[rv xb, iv 3] [(.int (((xc1 >>> ((0 : Int32) &&& 31)).toInt8.toInt32) &&& (255 : Int32)))])) rfl (hb hby d23_42)
  refine oWk.to (mkF m 53 #[rv xb, iv 3] [(.int (((xc1 >>> ((8 : Int32) &&& 31)).toInt8.toInt32) &&& (255 : Int32))), (.int ((((xc1 >>> ((0 : Int32) &&& 31)).toInt8.toInt32) &&& (255 : Int32)) <<< ((0 : Int32) &&& 31)))]) (fun _ kt => st _ (XS.ishl X.here hx rfl (hb hby d23_45) rfl (zA X hx hby d23_46 rfl rfl rfl (zI X hx hby d23_47 rfl rfl (oLdB X hx hZ e0 V_xb (3 : Int32) (iu8 xc1) ⟨by decide, by decide⟩ rfl hby d23_48 rfl rfl (zM X hx hby d23_49 rfl (XS.iand X.here hx rfl (hb hby d23_52) rfl kt))))))) ?_
  obtain ⟨T, X, e0, st⟩ := getS2 X hx hZ hown (host := "") (Or.inl (oW hw 102 rfl)) Via.refl e0 (S_LO_BYTE_SHIFT.ext Oh) (g := (mkF m 53 #[rv xb, iv 3] [(.int (((xc1 >>> ((8 : Int32) &&& 31)).toInt8.toInt32) &&& (255 : Int32))), (.int ((((xc1 >>> ((0 : Int32) &&& 31)).toInt8.toInt32) &&& (255 : Int32)) <<< ((0 : Int32) &&& 31)))])) rfl (hb hby d23_53)
  refine oWk.to (mkF m 59 #[rv xb, iv 3] [(.int ((((((xc1 >>> ((0 : Int32) &&& 31)).toInt8.toInt32) &&& (255 : Int32)) <<< ((0 : Int32) &&& 31)) ||| ((((xc1 >>> ((8 : Int32) &&& 31)).toInt8.toInt32) &&& (255 : Int32)) <<< ((8 : Int32) &&& 31))).toUInt32.toUInt16.toUInt32.toInt32))]) (fun _ kt => st _ (XS.ishl X.here hx rfl (hb hby d23_56) rfl (XS.ior X.here hx rfl (hb hby d23_57) rfl (XS.i2c X.here hx rfl (hb hby d23_58) rfl kt)))) ?_
  show oWk _ _ _ _ T (mkF m 59 #[rv xb, iv 3] [(.int ((((((xc1 >>> ((0 : Int32) &&& 31)).toInt8.toInt32) &&& (255 : Int32)) <<< ((0 : Int32) &&& 31)) ||| ((((xc1 >>> ((8 : Int32) &&& 31)).toInt8.toInt32) &&& (255 : Int32)) <<< ((8 : Int32) &&& 31))).toUInt32.toUInt16.toUInt32.toInt32))])
  rw [oU16 hr]
  show oWk _ _ _ _ T (mkF m 59 #[rv xb, iv 3] [(.int xc1)])
  exact oRetN X hx hlk hret (Or.inr (Or.inl rfl)) (show narrow .char (.int xc1) = .int xc1 from congrArg Value.int (oChrU hr)) (hb hby d23_59) (by rw [e0]; exact ⟨rfl, rfl, K⟩) (by decide) (by decide)
def Q_rGC_4_2 (Z : State) (xb : Addr) (xk : ClassId) (xc0 xc1 xc2 xc3 : Int32) (h0 : Heap) (v : Option Value) (h : Heap) (L : List Loc) : Prop := v = some (.int xc2) ∧ h = h0 ∧ oKp h0 h [] L
theorem rGC_4_2 (l : Launch) (Z : State) (a0 : Array Value) (hw : oHW a0 Z) (ws : List Jvm.Cond) (xb : Addr) (xk : ClassId) (xc0 xc1 xc2 xc3 : Int32) (h0 : Heap) (O0 : Ext Z.heap h0) (S__assertionsDisabled : Sta Z Z.heap Y1 Y3 "Z" (.int (1 : Int32))) (S_HI_BYTE_SHIFT : Sta Z Z.heap Y1 "HI_BYTE_SHIFT" "I" (.int (0 : Int32))) (S_LO_BYTE_SHIFT : Sta Z Z.heap Y1 "LO_BYTE_SHIFT" "I" (.int (8 : Int32))) (hr : 0 ≤ xc2.toInt ∧ xc2.toInt < 65536) (V_xb : Arv Z h0 xb xk .byte (8 : Int32) [(iu0 xc0), (iu8 xc0), (iu0 xc1), (iu8 xc1), (iu0 xc2), (iu8 xc2), (iu0 xc3), (iu8 xc3)] (.int (0 : Int32))) :
    oCon l Z yy12 jdk_52_method_5_code 2 (some .char) ws ({ frames := 0, cells := 0, slots := 0, locals := 0 } : Room) #[(.ref xb), (.int (2 : Int32))] h0 (Q_rGC_4_2 Z xb xk xc0 xc1 xc2 xc3 h0) := by
  refine oCon.of (plainFor_of_name pn_3) ?_
  intro p e s m below meth c T X hx hby hml hown hnm hret hlk hZ e0
  have hml : c.maxLocals = 2 := hml
  have K : oKp h0 h0 [] [] := oKp.nil _ _
  refine oWk.cast (g' := (mkF m 0 #[rv xb, iv 2] [])) (by first | rfl | (simp [entryFrame, mkF, argsToLocals, Value.category]; done)) ?_
  have Oh := K.old O0 all0
  obtain ⟨T, X, e0, st⟩ := getS2 X hx hZ hown (host := "") (Or.inl (oW hw 100 rfl)) Via.refl e0 (S__assertionsDisabled.ext Oh) (g := (mkF m 0 #[rv xb, iv 2] [])) rfl (hb hby d23_0)
  refine oWk.to (mkF m 33 #[rv xb, iv 4] [(.ref xb)]) (fun _ kt => st _ (zF X hx hby d23_3 rfl rfl ((if0 _ _).trans (feq (by decide)).2) (pc' := 28) rfl (zI X hx hby d23_28 rfl rfl (zK X hx hby d23_29 rfl (XS.ishl X.here hx rfl (hb hby d23_30) rfl (zSn X hx hby d23_31 rfl rfl (l' := #[rv xb, iv 4]) rfl (zA X hx hby d23_32 rfl rfl rfl kt))))))) ?_
  refine oWk.st (fun _ kt => zI X hx hby d23_33 rfl rfl (zC X hx hby d23_34 rfl rfl (l' := #[rv xb, iv ((4 : Int32) + (1 : Int32))]) rfl (oLdB X hx hZ e0 V_xb (4 : Int32) (iu0 xc2) ⟨by decide, by decide⟩ rfl hby d23_37 rfl rfl (zM X hx hby d23_38 rfl (XS.iand X.here hx rfl (hb hby d23_41) rfl kt))))) ?_
  obtain ⟨T, X, e0, st⟩ := getS2 X hx hZ hown (host := "") (Or.inl (oW hw 101 rfl)) Via.refl e0 (S_HI_BYTE_SHIFT.ext Oh) (g := (mkF m 42 #[rv xb, iv 5] [(.int (((xc2 >>> ((0 : Int32) &&& 31)).toInt8.toInt32) &&& (255 : Int32)))])) rfl (hb hby d23_42)
  refine oWk.to (mkF m 53 #[rv xb, iv 5] [(.int (((xc2 >>> ((8 : Int32) &&& 31)).toInt8.toInt32) &&& (255 : Int32))), (.int ((((xc2 >>> ((0 : Int32) &&& 31)).toInt8.toInt32) &&& (255 : Int32)) <<< ((0 : Int32) &&& 31)))]) (fun _ kt => st _ (XS.ishl X.here hx rfl (hb hby d23_45) rfl (zA X hx hby d23_46 rfl rfl rfl (zI X hx hby d23_47 rfl rfl (oLdB X hx hZ e0 V_xb (5 : Int32) (iu8 xc2) ⟨by decide, by decide⟩ rfl hby d23_48 rfl rfl (zM X hx hby d23_49 rfl (XS.iand X.here hx rfl (hb hby d23_52) rfl kt))))))) ?_
  obtain ⟨T, X, e0, st⟩ := getS2 X hx hZ hown (host := "") (Or.inl (oW hw 102 rfl)) Via.refl e0 (S_LO_BYTE_SHIFT.ext Oh) (g := (mkF m 53 #[rv xb, iv 5] [(.int (((xc2 >>> ((8 : Int32) &&& 31)).toInt8.toInt32) &&& (255 : Int32))), (.int ((((xc2 >>> ((0 : Int32) &&& 31)).toInt8.toInt32) &&& (255 : Int32)) <<< ((0 : Int32) &&& 31)))])) rfl (hb hby d23_53)
  refine oWk.to (mkF m 59 #[rv xb, iv 5] [(.int ((((((xc2 >>> ((0 : Int32) &&& 31)).toInt8.toInt32) &&& (255 : Int32)) <<< ((0 : Int32) &&& 31)) ||| ((((xc2 >>> ((8 : Int32) &&& 31)).toInt8.toInt32) &&& (255 : Int32)) <<< ((8 : Int32) &&& 31))).toUInt32.toUInt16.toUInt32.toInt32))]) (fun _ kt => st _ (XS.ishl X.here hx rfl (hb hby d23_56) rfl (XS.ior X.here hx rfl (hb hby d23_57) rfl (XS.i2c X.here hx rfl (hb hby d23_58) rfl kt)))) ?_
  show oWk _ _ _ _ T (mkF m 59 #[rv xb, iv 5] [(.int ((((((xc2 >>> ((0 : Int32) &&& 31)).toInt8.toInt32) &&& (255 : Int32)) <<< ((0 : Int32) &&& 31)) ||| ((((xc2 >>> ((8 : Int32) &&& 31)).toInt8.toInt32) &&& (255 : Int32)) <<< ((8 : Int32) &&& 31))).toUInt32.toUInt16.toUInt32.toInt32))])
  rw [oU16 hr]
  show oWk _ _ _ _ T (mkF m 59 #[rv xb, iv 5] [(.int xc2)])
  exact oRetN X hx hlk hret (Or.inr (Or.inl rfl)) (show narrow .char (.int xc2) = .int xc2 from congrArg Value.int (oChrU hr)) (hb hby d23_59) (by rw [e0]; exact ⟨rfl, rfl, K⟩) (by decide) (by decide)
def Q_rGC_4_3 (Z : State) (xb : Addr) (xk : ClassId) (xc0 xc1 xc2 xc3 : Int32) (h0 : Heap) (v : Option Value) (h : Heap) (L : List Loc) : Prop := v = some (.int xc3) ∧ h = h0 ∧ oKp h0 h [] L
theorem rGC_4_3 (l : Launch) (Z : State) (a0 : Array Value) (hw : oHW a0 Z) (ws : List Jvm.Cond) (xb : Addr) (xk : ClassId) (xc0 xc1 xc2 xc3 : Int32) (h0 : Heap) (O0 : Ext Z.heap h0) (S__assertionsDisabled : Sta Z Z.heap Y1 Y3 "Z" (.int (1 : Int32))) (S_HI_BYTE_SHIFT : Sta Z Z.heap Y1 "HI_BYTE_SHIFT" "I" (.int (0 : Int32))) (S_LO_BYTE_SHIFT : Sta Z Z.heap Y1 "LO_BYTE_SHIFT" "I" (.int (8 : Int32))) (hr : 0 ≤ xc3.toInt ∧ xc3.toInt < 65536) (V_xb : Arv Z h0 xb xk .byte (8 : Int32) [(iu0 xc0), (iu8 xc0), (iu0 xc1), (iu8 xc1), (iu0 xc2), (iu8 xc2), (iu0 xc3), (iu8 xc3)] (.int (0 : Int32))) :
    oCon l Z yy12 jdk_52_method_5_code 2 (some .char) ws ({ frames := 0, cells := 0, slots := 0, locals := 0 } : Room) #[(.ref xb), (.int (3 : Int32))] h0 (Q_rGC_4_3 Z xb xk xc0 xc1 xc2 xc3 h0) := by
  refine oCon.of (plainFor_of_name pn_3) ?_
  intro p e s m below meth c T X hx hby hml hown hnm hret hlk hZ e0
  have hml : c.maxLocals = 2 := hml
  have K : oKp h0 h0 [] [] := oKp.nil _ _
  refine oWk.cast (g' := (mkF m 0 #[rv xb, iv 3] [])) (by first | rfl | (simp [entryFrame, mkF, argsToLocals, Value.category]; done)) ?_
  have Oh := K.old O0 all0
  obtain ⟨T, X, e0, st⟩ := getS2 X hx hZ hown (host := "") (Or.inl (oW hw 100 rfl)) Via.refl e0 (S__assertionsDisabled.ext Oh) (g := (mkF m 0 #[rv xb, iv 3] [])) rfl (hb hby d23_0)
  refine oWk.to (mkF m 33 #[rv xb, iv 6] [(.ref xb)]) (fun _ kt => st _ (zF X hx hby d23_3 rfl rfl ((if0 _ _).trans (feq (by decide)).2) (pc' := 28) rfl (zI X hx hby d23_28 rfl rfl (zK X hx hby d23_29 rfl (XS.ishl X.here hx rfl (hb hby d23_30) rfl (zSn X hx hby d23_31 rfl rfl (l' := #[rv xb, iv 6]) rfl (zA X hx hby d23_32 rfl rfl rfl kt))))))) ?_
  refine oWk.st (fun _ kt => zI X hx hby d23_33 rfl rfl (zC X hx hby d23_34 rfl rfl (l' := #[rv xb, iv ((6 : Int32) + (1 : Int32))]) rfl (oLdB X hx hZ e0 V_xb (6 : Int32) (iu0 xc3) ⟨by decide, by decide⟩ rfl hby d23_37 rfl rfl (zM X hx hby d23_38 rfl (XS.iand X.here hx rfl (hb hby d23_41) rfl kt))))) ?_
  obtain ⟨T, X, e0, st⟩ := getS2 X hx hZ hown (host := "") (Or.inl (oW hw 101 rfl)) Via.refl e0 (S_HI_BYTE_SHIFT.ext Oh) (g := (mkF m 42 #[rv xb, iv 7] [(.int (((xc3 >>> ((0 : Int32) &&& 31)).toInt8.toInt32) &&& (255 : Int32)))])) rfl (hb hby d23_42)
  refine oWk.to (mkF m 53 #[rv xb, iv 7] [(.int (((xc3 >>> ((8 : Int32) &&& 31)).toInt8.toInt32) &&& (255 : Int32))), (.int ((((xc3 >>> ((0 : Int32) &&& 31)).toInt8.toInt32) &&& (255 : Int32)) <<< ((0 : Int32) &&& 31)))]) (fun _ kt => st _ (XS.ishl X.here hx rfl (hb hby d23_45) rfl (zA X hx hby d23_46 rfl rfl rfl (zI X hx hby d23_47 rfl rfl (oLdB X hx hZ e0 V_xb (7 : Int32) (iu8 xc3) ⟨by decide, by decide⟩ rfl hby d23_48 rfl rfl (zM X hx hby d23_49 rfl (XS.iand X.here hx rfl (hb hby d23_52) rfl kt))))))) ?_
  obtain ⟨T, X, e0, st⟩ := getS2 X hx hZ hown (host := "") (Or.inl (oW hw 102 rfl)) Via.refl e0 (S_LO_BYTE_SHIFT.ext Oh) (g := (mkF m 53 #[rv xb, iv 7] [(.int (((xc3 >>> ((8 : Int32) &&& 31)).toInt8.toInt32) &&& (255 : Int32))), (.int ((((xc3 >>> ((0 : Int32) &&& 31)).toInt8.toInt32) &&& (255 : Int32)) <<< ((0 : Int32) &&& 31)))])) rfl (hb hby d23_53)
  refine oWk.to (mkF m 59 #[rv xb, iv 7] [(.int ((((((xc3 >>> ((0 : Int32) &&& 31)).toInt8.toInt32) &&& (255 : Int32)) <<< ((0 : Int32) &&& 31)) ||| ((((xc3 >>> ((8 : Int32) &&& 31)).toInt8.toInt32) &&& (255 : Int32)) <<< ((8 : Int32) &&& 31))).toUInt32.toUInt16.toUInt32.toInt32))]) (fun _ kt => st _ (XS.ishl X.here hx rfl (hb hby d23_56) rfl (XS.ior X.here hx rfl (hb hby d23_57) rfl (XS.i2c X.here hx rfl (hb hby d23_58) rfl kt)))) ?_
  show oWk _ _ _ _ T (mkF m 59 #[rv xb, iv 7] [(.int ((((((xc3 >>> ((0 : Int32) &&& 31)).toInt8.toInt32) &&& (255 : Int32)) <<< ((0 : Int32) &&& 31)) ||| ((((xc3 >>> ((8 : Int32) &&& 31)).toInt8.toInt32) &&& (255 : Int32)) <<< ((8 : Int32) &&& 31))).toUInt32.toUInt16.toUInt32.toInt32))])
  rw [oU16 hr]
  show oWk _ _ _ _ T (mkF m 59 #[rv xb, iv 7] [(.int xc3)])
  exact oRetN X hx hlk hret (Or.inr (Or.inl rfl)) (show narrow .char (.int xc3) = .int xc3 from congrArg Value.int (oChrU hr)) (hb hby d23_59) (by rw [e0]; exact ⟨rfl, rfl, K⟩) (by decide) (by decide)
def Q_rC3U_4 (Z : State) (xa : Addr) (xk : ClassId) (xc0 xc1 xc2 xc3 : Int32) (h0 : Heap) (v : Option Value) (h : Heap) (L : List Loc) : Prop := ∃ (nb : Addr) (nk : ClassId), v = some (.ref nb) ∧ oKp h0 h [] L ∧ (h0.size ≤ nb) ∧ (Arv Z h nb nk .byte (8 : Int32) [(iu0 xc0), (iu8 xc0), (iu0 xc1), (iu8 xc1), (iu0 xc2), (iu8 xc2), (iu0 xc3), (iu8 xc3)] (.int (0 : Int32)))
theorem rC3U_4 (l : Launch) (Z : State) (a0 : Array Value) (hw : oHW a0 Z) (ws : List Jvm.Cond) (xa : Addr) (xk : ClassId) (xc0 xc1 xc2 xc3 : Int32) (h0 : Heap) (O0 : Ext Z.heap h0) (S__assertionsDisabled : Sta Z Z.heap Y1 Y3 "Z" (.int (1 : Int32))) (S_HI_BYTE_SHIFT : Sta Z Z.heap Y1 "HI_BYTE_SHIFT" "I" (.int (0 : Int32))) (S_LO_BYTE_SHIFT : Sta Z Z.heap Y1 "LO_BYTE_SHIFT" "I" (.int (8 : Int32))) (V_xa : Arv Z h0 xa xk .char (4 : Int32) [(.int xc0), (.int xc1), (.int xc2), (.int xc3)] (.int (0 : Int32))) (hr0 : 0 ≤ xc0.toInt ∧ xc0.toInt < 65536) (hr1 : 0 ≤ xc1.toInt ∧ xc1.toInt < 65536) (hr2 : 0 ≤ xc2.toInt ∧ xc2.toInt < 65536) (hr3 : 0 ≤ xc3.toInt ∧ xc3.toInt < 65536) (hU : ((255 : Int32) < xc0) ∨ (¬ (255 : Int32) < xc0 ∧ (255 : Int32) < xc1) ∨ (¬ (255 : Int32) < xc0 ∧ ¬ (255 : Int32) < xc1 ∧ (255 : Int32) < xc2) ∨ (¬ (255 : Int32) < xc0 ∧ ¬ (255 : Int32) < xc1 ∧ ¬ (255 : Int32) < xc2 ∧ (255 : Int32) < xc3)) :
    oCon l Z yy6 jdk_52_method_16_code 6 (some (.array .byte)) ws ({ frames := 3, cells := 2, slots := 12, locals := 40 } : Room) #[(.ref xa), (.int (0 : Int32)), (.int (4 : Int32))] h0 (Q_rC3U_4 Z xa xk xc0 xc1 xc2 xc3 h0) := by
  refine oCon.of (plainFor_of_name pn_3) ?_
  intro p e s m below meth c T X hx hby hml hown hnm hret hlk hZ e0
  have hml : c.maxLocals = 6 := hml
  have K : oKp h0 h0 [] [] := oKp.nil _ _
  refine oWk.cast (g' := (mkF m 0 #[rv xa, iv 0, iv 4, uu, uu, uu] [])) (by first | rfl | (simp [entryFrame, mkF, argsToLocals, Value.category]; done)) ?_
  rcases hU with hgt | ⟨hle0, hgt⟩ | ⟨hle0, hle1, hgt⟩ | ⟨hle0, hle1, hle2, hgt⟩
  · show oWk _ _ _ _ T (mkF m 0 #[rv xa, iv 0, iv 4, uu, uu, uu] [])
    refine oWk.st (fun _ kt => zI X hx hby d7_0 rfl rfl kt) ?_
    obtain ⟨o1, g1⟩ : ∃ z, z = h0.size := ⟨_, rfl⟩
    have ne_xa_o1 : xa ≠ o1 := Nat.ne_of_lt (Nat.lt_of_lt_of_le V_xa.lt (Nat.le_of_eq g1.symm))
    have ge_o1 : h0.size ≤ o1 := Nat.le_trans K.le (Nat.le_of_eq g1.symm)
    obtain ⟨T, h, k1, X, e0, E1, A1, st⟩ := newP X hx hZ (oW hw 17 rfl) e0 (g := (mkF m 1 #[rv xa, iv 0, iv 4, uu, uu, uu] [(.int 4)])) rfl (hb hby d7_1) rfl (by decide) (cap := 4) (by decide) (by decide) (by decide) (by decide)
    rw [← g1] at A1 st
    have K := K.ext E1
    have V_o1 : Arv Z h o1 k1 .byte (4 : Int32) [(.int (0 : Int32)), (.int (0 : Int32)), (.int (0 : Int32)), (.int (0 : Int32))] (.int (0 : Int32)) := (Arv.new A1 (by decide)).pad (pad_rep [] (.int (0 : Int32)) 4)
    refine oWk.to (mkF m 9 #[rv xa, iv 0, iv 4, rv o1, uu, uu] [(.int 4), (.int 0), (.ref o1), (.int 0), (.ref xa)]) (fun _ kt => st _ (zTn X hx hby d7_3 rfl rfl rfl (l' := #[rv xa, iv 0, iv 4, rv o1, uu, uu]) rfl (zA X hx hby d7_4 rfl rfl rfl (zI X hx hby d7_5 rfl rfl (zA X hx hby d7_6 rfl rfl rfl (zK X hx hby d7_7 rfl (zI X hx hby d7_8 rfl rfl kt))))))) ?_
    have V_xa := (V_xa.ext E1)
    have Oh := K.old O0 all0
    obtain ⟨_, T, h, Lc3, X, e0, hQ, st⟩ := (cs1 hw).run X hx hZ hown e0 (A := [(.ref xa), (.int (0 : Int32)), (.ref o1), (.int (0 : Int32)), (.int (4 : Int32))]) rfl (rC5U_4_0 l Z a0 hw [] xa o1 xk k1 xc0 xc1 xc2 xc3 h Oh (Nat.le_trans O0.1 ge_o1) ne_xa_o1 V_xa V_o1 hgt) (W := 0) (by decide) hml (Ls := #[rv xa, iv 0, iv 4, rv o1, uu, uu]) rfl (rest := []) rfl rfl hby d7_9
    obtain ⟨rfl, K2⟩ := hQ
    have K := K.call K2 (allS (Or.inr ge_o1) all0)
    refine oWk.to (mkF m 22 #[rv xa, iv 0, iv 4, rv o1, iv 0, uu] [(.int 0), (.ref xa)]) (fun _ kt => st _ (zS X hx hby d7_12 rfl rfl (l' := #[rv xa, iv 0, iv 4, rv o1, iv 0, uu]) rfl (zJ X hx hby d7_14 rfl rfl (zI X hx hby d7_16 rfl rfl (zN X hx hby d7_17 rfl rfl (feq (by decide)).1 (zA X hx hby d7_20 rfl rfl rfl (zI X hx hby d7_21 rfl rfl kt))))))) ?_
    refine oWk.st (fun _ kt => zI X hx hby d7_22 rfl rfl kt) ?_
    have V_xa := (V_xa.keep K2.1 (ninS ne_xa_o1 nin0))
    have lt_xa := V_xa.lt
    have Oh := K.old O0 all0
    obtain ⟨_, T, h, Lc5, X, e0, hQ, st⟩ := (cs8 hw).run X hx hZ hown e0 (A := [(.ref xa), (.int (0 : Int32)), (.int (4 : Int32))]) rfl (rTBU_4 l Z a0 hw [] xa xk xc0 xc1 xc2 xc3 h Oh S__assertionsDisabled S_HI_BYTE_SHIFT S_LO_BYTE_SHIFT V_xa) (W := 0) (by decide) hml (Ls := #[rv xa, iv 0, iv 4, rv o1, iv 0, uu]) rfl (rest := []) rfl rfl hby d7_23
    obtain ⟨nb4, nk4, rfl, K4, gn_nb4, V_nb4⟩ := hQ
    have ge_nb4 := Nat.le_trans K.le gn_nb4
    have ne_xa_nb4 : xa ≠ nb4 := Nat.ne_of_lt (Nat.lt_of_lt_of_le lt_xa gn_nb4)
    have K := K.call K4 all0
    refine oWk.st (fun _ kt => st _ (zT X hx hby d7_26 rfl rfl rfl (l' := #[rv xa, iv 0, iv 4, rv o1, iv 0, rv nb4]) rfl (zB X hx hby d7_28 rfl rfl rfl (zJ X hx hby d7_30 rfl rfl kt)))) ?_
    have Oh := K.old O0 all0
    obtain ⟨T, L7, X, e0, K, st⟩ := (cs9 hw).pure X hx hZ hown e0 K (A := [(.ref nb4), (.int (0 : Int32))]) rfl (rGC_4_0 l Z a0 hw [] nb4 nk4 xc0 xc1 xc2 xc3 h Oh S__assertionsDisabled S_HI_BYTE_SHIFT S_LO_BYTE_SHIFT hr0 V_nb4) (fun _ _ _ q => q) (W := 0) (by decide) hml (Ls := #[rv xa, iv 0, iv 4, rv o1, iv 0, rv nb4]) rfl (rest := []) rfl rfl hby d7_32
    refine oWk.to (mkF m 56 #[rv xa, iv 0, iv 4, rv o1, iv 0, rv nb4] [(.ref nb4)]) (fun _ kt => st _ (zM X hx hby d7_35 rfl (zY X hx hby d7_38 rfl rfl (tlt hgt).2.2.1 (pc' := 54) rfl (zB X hx hby d7_54 rfl rfl rfl kt)))) ?_
    exact oRetA X hx hlk hret rfl rfl (hb hby d7_56) (by rw [e0]; exact ⟨nb4, nk4, rfl, K, ge_nb4, V_nb4⟩) (by decide) (by decide)
  · show oWk _ _ _ _ T (mkF m 0 #[rv xa, iv 0, iv 4, uu, uu, uu] [])
    refine oWk.st (fun _ kt => zI X hx hby d7_0 rfl rfl kt) ?_
    obtain ⟨o8, g8⟩ : ∃ z, z = h0.size := ⟨_, rfl⟩
    have ne_xa_o8 : xa ≠ o8 := Nat.ne_of_lt (Nat.lt_of_lt_of_le V_xa.lt (Nat.le_of_eq g8.symm))
    have ge_o8 : h0.size ≤ o8 := Nat.le_trans K.le (Nat.le_of_eq g8.symm)
    obtain ⟨T, h, k8, X, e0, E8, A8, st⟩ := newP X hx hZ (oW hw 17 rfl) e0 (g := (mkF m 1 #[rv xa, iv 0, iv 4, uu, uu, uu] [(.int 4)])) rfl (hb hby d7_1) rfl (by decide) (cap := 4) (by decide) (by decide) (by decide) (by decide)
    rw [← g8] at A8 st
    have K := K.ext E8
    have V_o8 : Arv Z h o8 k8 .byte (4 : Int32) [(.int (0 : Int32)), (.int (0 : Int32)), (.int (0 : Int32)), (.int (0 : Int32))] (.int (0 : Int32)) := (Arv.new A8 (by decide)).pad (pad_rep [] (.int (0 : Int32)) 4)
    refine oWk.to (mkF m 9 #[rv xa, iv 0, iv 4, rv o8, uu, uu] [(.int 4), (.int 0), (.ref o8), (.int 0), (.ref xa)]) (fun _ kt => st _ (zTn X hx hby d7_3 rfl rfl rfl (l' := #[rv xa, iv 0, iv 4, rv o8, uu, uu]) rfl (zA X hx hby d7_4 rfl rfl rfl (zI X hx hby d7_5 rfl rfl (zA X hx hby d7_6 rfl rfl rfl (zK X hx hby d7_7 rfl (zI X hx hby d7_8 rfl rfl kt))))))) ?_
    have V_xa := (V_xa.ext E8)
    have Oh := K.old O0 all0
    obtain ⟨_, T, h, Lc10, X, e0, hQ, st⟩ := (cs1 hw).run X hx hZ hown e0 (A := [(.ref xa), (.int (0 : Int32)), (.ref o8), (.int (0 : Int32)), (.int (4 : Int32))]) rfl (rC5U_4_1 l Z a0 hw [] xa o8 xk k8 xc0 xc1 xc2 xc3 h Oh (Nat.le_trans O0.1 ge_o8) ne_xa_o8 V_xa V_o8 hle0 hgt) (W := 0) (by decide) hml (Ls := #[rv xa, iv 0, iv 4, rv o8, uu, uu]) rfl (rest := []) rfl rfl hby d7_9
    obtain ⟨rfl, K9⟩ := hQ
    have K := K.call K9 (allS (Or.inr ge_o8) all0)
    refine oWk.to (mkF m 22 #[rv xa, iv 0, iv 4, rv o8, iv 1, uu] [(.int 0), (.ref xa)]) (fun _ kt => st _ (zS X hx hby d7_12 rfl rfl (l' := #[rv xa, iv 0, iv 4, rv o8, iv 1, uu]) rfl (zJ X hx hby d7_14 rfl rfl (zI X hx hby d7_16 rfl rfl (zN X hx hby d7_17 rfl rfl (feq (by decide)).1 (zA X hx hby d7_20 rfl rfl rfl (zI X hx hby d7_21 rfl rfl kt))))))) ?_
    refine oWk.st (fun _ kt => zI X hx hby d7_22 rfl rfl kt) ?_
    have V_xa := (V_xa.keep K9.1 (ninS ne_xa_o8 nin0))
    have lt_xa := V_xa.lt
    have Oh := K.old O0 all0
    obtain ⟨_, T, h, Lc12, X, e0, hQ, st⟩ := (cs8 hw).run X hx hZ hown e0 (A := [(.ref xa), (.int (0 : Int32)), (.int (4 : Int32))]) rfl (rTBU_4 l Z a0 hw [] xa xk xc0 xc1 xc2 xc3 h Oh S__assertionsDisabled S_HI_BYTE_SHIFT S_LO_BYTE_SHIFT V_xa) (W := 0) (by decide) hml (Ls := #[rv xa, iv 0, iv 4, rv o8, iv 1, uu]) rfl (rest := []) rfl rfl hby d7_23
    obtain ⟨nb11, nk11, rfl, K11, gn_nb11, V_nb11⟩ := hQ
    have ge_nb11 := Nat.le_trans K.le gn_nb11
    have ne_xa_nb11 : xa ≠ nb11 := Nat.ne_of_lt (Nat.lt_of_lt_of_le lt_xa gn_nb11)
    have K := K.call K11 all0
    refine oWk.st (fun _ kt => st _ (zT X hx hby d7_26 rfl rfl rfl (l' := #[rv xa, iv 0, iv 4, rv o8, iv 1, rv nb11]) rfl (zB X hx hby d7_28 rfl rfl rfl (zJ X hx hby d7_30 rfl rfl kt)))) ?_
    have Oh := K.old O0 all0
    obtain ⟨T, L14, X, e0, K, st⟩ := (cs9 hw).pure X hx hZ hown e0 K (A := [(.ref nb11), (.int (1 : Int32))]) rfl (rGC_4_1 l Z a0 hw [] nb11 nk11 xc0 xc1 xc2 xc3 h Oh S__assertionsDisabled S_HI_BYTE_SHIFT S_LO_BYTE_SHIFT hr1 V_nb11) (fun _ _ _ q => q) (W := 0) (by decide) hml (Ls := #[rv xa, iv 0, iv 4, rv o8, iv 1, rv nb11]) rfl (rest := []) rfl rfl hby d7_32
    refine oWk.to (mkF m 56 #[rv xa, iv 0, iv 4, rv o8, iv 1, rv nb11] [(.ref nb11)]) (fun _ kt => st _ (zM X hx hby d7_35 rfl (zY X hx hby d7_38 rfl rfl (tlt hgt).2.2.1 (pc' := 54) rfl (zB X hx hby d7_54 rfl rfl rfl kt)))) ?_
    exact oRetA X hx hlk hret rfl rfl (hb hby d7_56) (by rw [e0]; exact ⟨nb11, nk11, rfl, K, ge_nb11, V_nb11⟩) (by decide) (by decide)
  · show oWk _ _ _ _ T (mkF m 0 #[rv xa, iv 0, iv 4, uu, uu, uu] [])
    refine oWk.st (fun _ kt => zI X hx hby d7_0 rfl rfl kt) ?_
    obtain ⟨o15, g15⟩ : ∃ z, z = h0.size := ⟨_, rfl⟩
    have ne_xa_o15 : xa ≠ o15 := Nat.ne_of_lt (Nat.lt_of_lt_of_le V_xa.lt (Nat.le_of_eq g15.symm))
    have ge_o15 : h0.size ≤ o15 := Nat.le_trans K.le (Nat.le_of_eq g15.symm)
    obtain ⟨T, h, k15, X, e0, E15, A15, st⟩ := newP X hx hZ (oW hw 17 rfl) e0 (g := (mkF m 1 #[rv xa, iv 0, iv 4, uu, uu, uu] [(.int 4)])) rfl (hb hby d7_1) rfl (by decide) (cap := 4) (by decide) (by decide) (by decide) (by decide)
    rw [← g15] at A15 st
    have K := K.ext E15
    have V_o15 : Arv Z h o15 k15 .byte (4 : Int32) [(.int (0 : Int32)), (.int (0 : Int32)), (.int (0 : Int32)), (.int (0 : Int32))] (.int (0 : Int32)) := (Arv.new A15 (by decide)).pad (pad_rep [] (.int (0 : Int32)) 4)
    refine oWk.to (mkF m 9 #[rv xa, iv 0, iv 4, rv o15, uu, uu] [(.int 4), (.int 0), (.ref o15), (.int 0), (.ref xa)]) (fun _ kt => st _ (zTn X hx hby d7_3 rfl rfl rfl (l' := #[rv xa, iv 0, iv 4, rv o15, uu, uu]) rfl (zA X hx hby d7_4 rfl rfl rfl (zI X hx hby d7_5 rfl rfl (zA X hx hby d7_6 rfl rfl rfl (zK X hx hby d7_7 rfl (zI X hx hby d7_8 rfl rfl kt))))))) ?_
    have V_xa := (V_xa.ext E15)
    have Oh := K.old O0 all0
    obtain ⟨_, T, h, Lc17, X, e0, hQ, st⟩ := (cs1 hw).run X hx hZ hown e0 (A := [(.ref xa), (.int (0 : Int32)), (.ref o15), (.int (0 : Int32)), (.int (4 : Int32))]) rfl (rC5U_4_2 l Z a0 hw [] xa o15 xk k15 xc0 xc1 xc2 xc3 h Oh (Nat.le_trans O0.1 ge_o15) ne_xa_o15 V_xa V_o15 hle0 hle1 hgt) (W := 0) (by decide) hml (Ls := #[rv xa, iv 0, iv 4, rv o15, uu, uu]) rfl (rest := []) rfl rfl hby d7_9
    obtain ⟨rfl, K16⟩ := hQ
    have K := K.call K16 (allS (Or.inr ge_o15) all0)
    refine oWk.to (mkF m 22 #[rv xa, iv 0, iv 4, rv o15, iv 2, uu] [(.int 0), (.ref xa)]) (fun _ kt => st _ (zS X hx hby d7_12 rfl rfl (l' := #[rv xa, iv 0, iv 4, rv o15, iv 2, uu]) rfl (zJ X hx hby d7_14 rfl rfl (zI X hx hby d7_16 rfl rfl (zN X hx hby d7_17 rfl rfl (feq (by decide)).1 (zA X hx hby d7_20 rfl rfl rfl (zI X hx hby d7_21 rfl rfl kt))))))) ?_
    refine oWk.st (fun _ kt => zI X hx hby d7_22 rfl rfl kt) ?_
    have V_xa := (V_xa.keep K16.1 (ninS ne_xa_o15 nin0))
    have lt_xa := V_xa.lt
    have Oh := K.old O0 all0
    obtain ⟨_, T, h, Lc19, X, e0, hQ, st⟩ := (cs8 hw).run X hx hZ hown e0 (A := [(.ref xa), (.int (0 : Int32)), (.int (4 : Int32))]) rfl (rTBU_4 l Z a0 hw [] xa xk xc0 xc1 xc2 xc3 h Oh S__assertionsDisabled S_HI_BYTE_SHIFT S_LO_BYTE_SHIFT V_xa) (W := 0) (by decide) hml (Ls := #[rv xa, iv 0, iv 4, rv o15, iv 2, uu]) rfl (rest := []) rfl rfl hby d7_23
    obtain ⟨nb18, nk18, rfl, K18, gn_nb18, V_nb18⟩ := hQ
    have ge_nb18 := Nat.le_trans K.le gn_nb18
    have ne_xa_nb18 : xa ≠ nb18 := Nat.ne_of_lt (Nat.lt_of_lt_of_le lt_xa gn_nb18)
    have K := K.call K18 all0
    refine oWk.st (fun _ kt => st _ (zT X hx hby d7_26 rfl rfl rfl (l' := #[rv xa, iv 0, iv 4, rv o15, iv 2, rv nb18]) rfl (zB X hx hby d7_28 rfl rfl rfl (zJ X hx hby d7_30 rfl rfl kt)))) ?_
    have Oh := K.old O0 all0
    obtain ⟨T, L21, X, e0, K, st⟩ := (cs9 hw).pure X hx hZ hown e0 K (A := [(.ref nb18), (.int (2 : Int32))]) rfl (rGC_4_2 l Z a0 hw [] nb18 nk18 xc0 xc1 xc2 xc3 h Oh S__assertionsDisabled S_HI_BYTE_SHIFT S_LO_BYTE_SHIFT hr2 V_nb18) (fun _ _ _ q => q) (W := 0) (by decide) hml (Ls := #[rv xa, iv 0, iv 4, rv o15, iv 2, rv nb18]) rfl (rest := []) rfl rfl hby d7_32
    refine oWk.to (mkF m 56 #[rv xa, iv 0, iv 4, rv o15, iv 2, rv nb18] [(.ref nb18)]) (fun _ kt => st _ (zM X hx hby d7_35 rfl (zY X hx hby d7_38 rfl rfl (tlt hgt).2.2.1 (pc' := 54) rfl (zB X hx hby d7_54 rfl rfl rfl kt)))) ?_
    exact oRetA X hx hlk hret rfl rfl (hb hby d7_56) (by rw [e0]; exact ⟨nb18, nk18, rfl, K, ge_nb18, V_nb18⟩) (by decide) (by decide)
  · show oWk _ _ _ _ T (mkF m 0 #[rv xa, iv 0, iv 4, uu, uu, uu] [])
    refine oWk.st (fun _ kt => zI X hx hby d7_0 rfl rfl kt) ?_
    obtain ⟨o22, g22⟩ : ∃ z, z = h0.size := ⟨_, rfl⟩
    have ne_xa_o22 : xa ≠ o22 := Nat.ne_of_lt (Nat.lt_of_lt_of_le V_xa.lt (Nat.le_of_eq g22.symm))
    have ge_o22 : h0.size ≤ o22 := Nat.le_trans K.le (Nat.le_of_eq g22.symm)
    obtain ⟨T, h, k22, X, e0, E22, A22, st⟩ := newP X hx hZ (oW hw 17 rfl) e0 (g := (mkF m 1 #[rv xa, iv 0, iv 4, uu, uu, uu] [(.int 4)])) rfl (hb hby d7_1) rfl (by decide) (cap := 4) (by decide) (by decide) (by decide) (by decide)
    rw [← g22] at A22 st
    have K := K.ext E22
    have V_o22 : Arv Z h o22 k22 .byte (4 : Int32) [(.int (0 : Int32)), (.int (0 : Int32)), (.int (0 : Int32)), (.int (0 : Int32))] (.int (0 : Int32)) := (Arv.new A22 (by decide)).pad (pad_rep [] (.int (0 : Int32)) 4)
    refine oWk.to (mkF m 9 #[rv xa, iv 0, iv 4, rv o22, uu, uu] [(.int 4), (.int 0), (.ref o22), (.int 0), (.ref xa)]) (fun _ kt => st _ (zTn X hx hby d7_3 rfl rfl rfl (l' := #[rv xa, iv 0, iv 4, rv o22, uu, uu]) rfl (zA X hx hby d7_4 rfl rfl rfl (zI X hx hby d7_5 rfl rfl (zA X hx hby d7_6 rfl rfl rfl (zK X hx hby d7_7 rfl (zI X hx hby d7_8 rfl rfl kt))))))) ?_
    have V_xa := (V_xa.ext E22)
    have Oh := K.old O0 all0
    obtain ⟨_, T, h, Lc24, X, e0, hQ, st⟩ := (cs1 hw).run X hx hZ hown e0 (A := [(.ref xa), (.int (0 : Int32)), (.ref o22), (.int (0 : Int32)), (.int (4 : Int32))]) rfl (rC5U_4_3 l Z a0 hw [] xa o22 xk k22 xc0 xc1 xc2 xc3 h Oh (Nat.le_trans O0.1 ge_o22) ne_xa_o22 V_xa V_o22 hle0 hle1 hle2 hgt) (W := 0) (by decide) hml (Ls := #[rv xa, iv 0, iv 4, rv o22, uu, uu]) rfl (rest := []) rfl rfl hby d7_9
    obtain ⟨rfl, K23⟩ := hQ
    have K := K.call K23 (allS (Or.inr ge_o22) all0)
    refine oWk.to (mkF m 22 #[rv xa, iv 0, iv 4, rv o22, iv 3, uu] [(.int 0), (.ref xa)]) (fun _ kt => st _ (zS X hx hby d7_12 rfl rfl (l' := #[rv xa, iv 0, iv 4, rv o22, iv 3, uu]) rfl (zJ X hx hby d7_14 rfl rfl (zI X hx hby d7_16 rfl rfl (zN X hx hby d7_17 rfl rfl (feq (by decide)).1 (zA X hx hby d7_20 rfl rfl rfl (zI X hx hby d7_21 rfl rfl kt))))))) ?_
    refine oWk.st (fun _ kt => zI X hx hby d7_22 rfl rfl kt) ?_
    have V_xa := (V_xa.keep K23.1 (ninS ne_xa_o22 nin0))
    have lt_xa := V_xa.lt
    have Oh := K.old O0 all0
    obtain ⟨_, T, h, Lc26, X, e0, hQ, st⟩ := (cs8 hw).run X hx hZ hown e0 (A := [(.ref xa), (.int (0 : Int32)), (.int (4 : Int32))]) rfl (rTBU_4 l Z a0 hw [] xa xk xc0 xc1 xc2 xc3 h Oh S__assertionsDisabled S_HI_BYTE_SHIFT S_LO_BYTE_SHIFT V_xa) (W := 0) (by decide) hml (Ls := #[rv xa, iv 0, iv 4, rv o22, iv 3, uu]) rfl (rest := []) rfl rfl hby d7_23
    obtain ⟨nb25, nk25, rfl, K25, gn_nb25, V_nb25⟩ := hQ
    have ge_nb25 := Nat.le_trans K.le gn_nb25
    have ne_xa_nb25 : xa ≠ nb25 := Nat.ne_of_lt (Nat.lt_of_lt_of_le lt_xa gn_nb25)
    have K := K.call K25 all0
    refine oWk.st (fun _ kt => st _ (zT X hx hby d7_26 rfl rfl rfl (l' := #[rv xa, iv 0, iv 4, rv o22, iv 3, rv nb25]) rfl (zB X hx hby d7_28 rfl rfl rfl (zJ X hx hby d7_30 rfl rfl kt)))) ?_
    have Oh := K.old O0 all0
    obtain ⟨T, L28, X, e0, K, st⟩ := (cs9 hw).pure X hx hZ hown e0 K (A := [(.ref nb25), (.int (3 : Int32))]) rfl (rGC_4_3 l Z a0 hw [] nb25 nk25 xc0 xc1 xc2 xc3 h Oh S__assertionsDisabled S_HI_BYTE_SHIFT S_LO_BYTE_SHIFT hr3 V_nb25) (fun _ _ _ q => q) (W := 0) (by decide) hml (Ls := #[rv xa, iv 0, iv 4, rv o22, iv 3, rv nb25]) rfl (rest := []) rfl rfl hby d7_32
    refine oWk.to (mkF m 56 #[rv xa, iv 0, iv 4, rv o22, iv 3, rv nb25] [(.ref nb25)]) (fun _ kt => st _ (zM X hx hby d7_35 rfl (zY X hx hby d7_38 rfl rfl (tlt hgt).2.2.1 (pc' := 54) rfl (zB X hx hby d7_54 rfl rfl rfl kt)))) ?_
    exact oRetA X hx hlk hret rfl rfl (hb hby d7_56) (by rw [e0]; exact ⟨nb25, nk25, rfl, K, ge_nb25, V_nb25⟩) (by decide) (by decide)
def Q_rCoU_4 (Z : State) (xb : Addr) (xk : ClassId) (xc0 xc1 xc2 xc3 : Int32) (h0 : Heap) (v : Option Value) (h : Heap) (L : List Loc) : Prop := v = some (.int (1 : Int32)) ∧ h = h0 ∧ oKp h0 h [] L
theorem rCoU_4 (l : Launch) (Z : State) (a0 : Array Value) (hw : oHW a0 Z) (ws : List Jvm.Cond) (xb : Addr) (xk : ClassId) (xc0 xc1 xc2 xc3 : Int32) (h0 : Heap) (O0 : Ext Z.heap h0) (V_xb : Arv Z h0 xb xk .byte (8 : Int32) [(iu0 xc0), (iu8 xc0), (iu0 xc1), (iu8 xc1), (iu0 xc2), (iu8 xc2), (iu0 xc3), (iu8 xc3)] (.int (0 : Int32))) :
    oCon l Z yy7 jdk_52_method_15_code 2 (some .byte) ws ({ frames := 0, cells := 0, slots := 0, locals := 0 } : Room) #[(.ref xb), (.int (4 : Int32))] h0 (Q_rCoU_4 Z xb xk xc0 xc1 xc2 xc3 h0) := by
  refine oCon.of (plainFor_of_name pn_3) ?_
  intro p e s m below meth c T X hx hby hml hown hnm hret hlk hZ e0
  have hml : c.maxLocals = 2 := hml
  have K : oKp h0 h0 [] [] := oKp.nil _ _
  refine oWk.cast (g' := (mkF m 0 #[rv xb, iv 4] [])) (by first | rfl | (simp [entryFrame, mkF, argsToLocals, Value.category]; done)) ?_
  refine oWk.to (mkF m 8 #[rv xb, iv 4] [(.int 1)]) (fun _ kt => zI X hx hby d9_0 rfl rfl (zA X hx hby d9_1 rfl rfl rfl (oAl X hx hZ e0 V_xb hby d9_2 rfl rfl (XS.isub X.here hx rfl (hb hby d9_3) rfl (zL X hx hby d9_4 rfl (XS.iushr X.here hx rfl (hb hby d9_6) rfl (XS.i2b X.here hx rfl (hb hby d9_7) rfl kt))))))) ?_
  exact oRetN X hx hlk hret (Or.inl rfl) rfl (hb hby d9_8) (by rw [e0]; exact ⟨rfl, rfl, K⟩) (by decide) (by decide)
def Q_rI4U_4 (Z : State) (xs xa : Addr) (xk : ClassId) (xz : Int32) (xu xv : Value) (xc0 xc1 xc2 xc3 : Int32) (h0 : Heap) (v : Option Value) (h : Heap) (L : List Loc) : Prop := ∃ (nb : Addr) (nk : ClassId), v = none ∧ oKp h0 h [xs] L ∧ (Exa Z h xs Y0) ∧ (Fld Z h xs Y0 "coder" "B" (.int (1 : Int32))) ∧ (Fld Z h xs Y0 "value" "[B" (.ref nb)) ∧ (h0.size ≤ nb) ∧ (Arv Z h nb nk .byte (8 : Int32) [(iu0 xc0), (iu8 xc0), (iu0 xc1), (iu8 xc1), (iu0 xc2), (iu8 xc2), (iu0 xc3), (iu8 xc3)] (.int (0 : Int32)))
theorem rI4U_4 (l : Launch) (Z : State) (a0 : Array Value) (hw : oHW a0 Z) (ws : List Jvm.Cond) (xs xa : Addr) (xk : ClassId) (xz : Int32) (xu xv : Value) (xc0 xc1 xc2 xc3 : Int32) (h0 : Heap) (O0 : Ext Z.heap h0) (S_COMPACT_STRINGS : Sta Z Z.heap Y0 Y6 "Z" (.int xz)) (hz : ¬ xz = (0 : Int32)) (S__assertionsDisabled : Sta Z Z.heap Y1 Y3 "Z" (.int (1 : Int32))) (S_HI_BYTE_SHIFT : Sta Z Z.heap Y1 "HI_BYTE_SHIFT" "I" (.int (0 : Int32))) (S_LO_BYTE_SHIFT : Sta Z Z.heap Y1 "LO_BYTE_SHIFT" "I" (.int (8 : Int32))) (og_xs : Z.heap.size ≤ xs) (E_xs : Exa Z h0 xs Y0) (F_value_xs : Fld Z h0 xs Y0 "value" "[B" xu) (F_coder_xs : Fld Z h0 xs Y0 "coder" "B" xv) (V_xa : Arv Z h0 xa xk .char (4 : Int32) [(.int xc0), (.int xc1), (.int xc2), (.int xc3)] (.int (0 : Int32))) (hr0 : 0 ≤ xc0.toInt ∧ xc0.toInt < 65536) (hr1 : 0 ≤ xc1.toInt ∧ xc1.toInt < 65536) (hr2 : 0 ≤ xc2.toInt ∧ xc2.toInt < 65536) (hr3 : 0 ≤ xc3.toInt ∧ xc3.toInt < 65536) (hU : ((255 : Int32) < xc0) ∨ (¬ (255 : Int32) < xc0 ∧ (255 : Int32) < xc1) ∨ (¬ (255 : Int32) < xc0 ∧ ¬ (255 : Int32) < xc1 ∧ (255 : Int32) < xc2) ∨ (¬ (255 : Int32) < xc0 ∧ ¬ (255 : Int32) < xc1 ∧ ¬ (255 : Int32) < xc2 ∧ (255 : Int32) < xc3)) :
    oCon l Z yy3 jdk_42_method_149_code 6 none ws ({ frames := 4, cells := 2, slots := 12, locals := 57 } : Room) #[(.ref xs), (.ref xa), (.int (0 : Int32)), (.int (4 : Int32)), .null] h0 (Q_rI4U_4 Z xs xa xk xz xu xv xc0 xc1 xc2 xc3 h0) := by
  refine oCon.of (plainFor_of_name pn_2) ?_
  intro p e s m below meth c T X hx hby hml hown hnm hret hlk hZ e0
  have hml : c.maxLocals = 6 := hml
  have K : oKp h0 h0 [xs] [] := oKp.nil _ _
  refine oWk.cast (g' := (mkF m 0 #[rv xs, rv xa, iv 0, iv 4, .val .null, uu] [])) (by first | rfl | (simp [entryFrame, mkF, argsToLocals, Value.category]; done)) ?_
  refine oWk.st (fun _ kt => zA X hx hby d2_0 rfl rfl rfl kt) ?_
  obtain ⟨T, X, e0, st⟩ := initO X hx hZ hown (oW hw 13 rfl) (oW hw 14 rfl) (oW hw 15 rfl) e0 (g := (mkF m 1 #[rv xs, rv xa, iv 0, iv 4, .val .null, uu] [(.ref xs)])) rfl (by rw [hml]; rfl) rfl (hb hby d2_1) (by decide) (W := 0) (Nat.le_of_eq rfl) (by decide)
  refine oWk.st (fun _ kt => st _ (zI X hx hby d2_4 rfl rfl (zF X hx hby d2_5 rfl rfl ((if0 _ _).trans (feq (by decide)).2) (pc' := 27) rfl kt))) ?_
  have Oh := K.old O0 (allS og_xs all0)
  obtain ⟨T, X, e0, st⟩ := getS2 X hx hZ hown (host := "") (Or.inl (oW hw 37 rfl)) Via.refl e0 (S_COMPACT_STRINGS.ext Oh) (g := (mkF m 27 #[rv xs, rv xa, iv 0, iv 4, .val .null, uu] [])) rfl (hb hby d2_27)
  refine oWk.st (fun _ kt => st _ (zH X hx hby d2_30 rfl rfl ((if0 _ _).trans (feq hz).1) (zA X hx hby d2_33 rfl rfl rfl (zI X hx hby d2_34 rfl rfl (zI X hx hby d2_35 rfl rfl kt))))) ?_
  have lt_xs := E_xs.lt
  have lt_xa := V_xa.lt
  obtain ⟨_, T, h, Lc2, X, e0, hQ, st⟩ := (cs2 hw).run X hx hZ hown e0 (A := [(.ref xa), (.int (0 : Int32)), (.int (4 : Int32))]) rfl (rC3U_4 l Z a0 hw [] xa xk xc0 xc1 xc2 xc3 h0 Oh S__assertionsDisabled S_HI_BYTE_SHIFT S_LO_BYTE_SHIFT V_xa hr0 hr1 hr2 hr3 hU) (W := 0) (by decide) hml (Ls := #[rv xs, rv xa, iv 0, iv 4, .val .null, uu]) rfl (rest := []) rfl rfl hby d2_36
  obtain ⟨nb1, nk1, rfl, K1, gn_nb1, V_nb1⟩ := hQ
  have ge_nb1 := Nat.le_trans K.le gn_nb1
  have ne_xs_nb1 : xs ≠ nb1 := Nat.ne_of_lt (Nat.lt_of_lt_of_le lt_xs gn_nb1)
  have ne_xa_nb1 : xa ≠ nb1 := Nat.ne_of_lt (Nat.lt_of_lt_of_le lt_xa gn_nb1)
  have K := K.call K1 all0
  refine oWk.st (fun _ kt => st _ (zT X hx hby d2_39 rfl rfl rfl (l' := #[rv xs, rv xa, iv 0, iv 4, .val .null, rv nb1]) rfl (zA X hx hby d2_41 rfl rfl rfl (zB X hx hby d2_42 rfl rfl rfl (zI X hx hby d2_44 rfl rfl kt))))) ?_
  have Oh := K.old O0 (allS og_xs all0)
  obtain ⟨T, L4, X, e0, K, st⟩ := (cs3 hw).pure X hx hZ hown e0 K (A := [(.ref nb1), (.int (4 : Int32))]) rfl (rCoU_4 l Z a0 hw [] nb1 nk1 xc0 xc1 xc2 xc3 h Oh V_nb1) (fun _ _ _ q => q) (W := 1) (by decide) hml (Ls := #[rv xs, rv xa, iv 0, iv 4, .val .null, rv nb1]) rfl (rest := [(.ref xs)]) rfl rfl hby d2_45
  refine oWk.st (fun _ kt => st _ kt) ?_
  have E_xs := (E_xs.keep K1.1)
  have F_coder_xs := (F_coder_xs.keep K1.1 nin0)
  obtain ⟨T, h, X, e0, W5, st⟩ := putFN X hx hZ hown (oW hw 23 rfl) Via.refl e0 F_coder_xs E_xs (Or.inr ⟨(oW hw 19 rfl), rfl, hnm⟩) (oW hw 4 rfl) (ty := .byte) (v' := .int (1 : Int32)) (by decide) rfl (by decide) (g := (mkF m 48 #[rv xs, rv xa, iv 0, iv 4, .val .null, rv nb1] [(.int 1), (.ref xs)])) rfl rfl (hb hby d2_48)
  have K := K.wr W5 (Or.inl (List.mem_of_getElem? (i := 0) rfl))
  have F_coder_xs := F_coder_xs.same W5
  refine oWk.st (fun _ kt => st _ (zA X hx hby d2_51 rfl rfl rfl (zB X hx hby d2_52 rfl rfl rfl kt))) ?_
  have E_xs := (E_xs.wr W5)
  have F_value_xs := ((F_value_xs.keep K1.1 nin0).other W5 (Or.inr (slot_ne (Or.inr (oW hw 18 rfl)) (Or.inr (oW hw 19 rfl)) (by decide) (t := (.array .byte)) (t' := .byte) (by decide) (by decide))))
  obtain ⟨T, h, X, e0, W6, st⟩ := putF X hx hZ hown (host := "") (Or.inl (oW hw 22 rfl)) Via.refl e0 F_value_xs E_xs (Or.inr ⟨(oW hw 18 rfl), rfl, hnm⟩) (oW hw 4 rfl) (ty := (.array .byte)) (by decide) rfl rfl (g := (mkF m 54 #[rv xs, rv xa, iv 0, iv 4, .val .null, rv nb1] [(.ref nb1), (.ref xs)])) rfl rfl (hb hby d2_54)
  have K := K.wr W6 (Or.inl (List.mem_of_getElem? (i := 0) rfl))
  have F_value_xs := F_value_xs.same W6
  refine oWk.to (mkF m 57 #[rv xs, rv xa, iv 0, iv 4, .val .null, rv nb1] []) (fun _ kt => st _ kt) ?_
  have E_xs := (E_xs.wr W6)
  have F_coder_xs := (F_coder_xs.other W6 (Or.inr (slot_ne (Or.inr (oW hw 19 rfl)) (Or.inr (oW hw 18 rfl)) (by decide) (t := .byte) (t' := (.array .byte)) (by decide) (by decide))))
  have V_nb1 := ((V_nb1.other W5 (Ne.symm ne_xs_nb1)).other W6 (Ne.symm ne_xs_nb1))
  exact oRetV X hx hlk hret (hb hby d2_57) (by rw [e0]; exact ⟨nb1, nk1, rfl, K, E_xs, F_coder_xs, F_value_xs, ge_nb1, V_nb1⟩) (by decide) (by decide)
def Q_rI1U_4 (Z : State) (xs xa : Addr) (xk : ClassId) (xz : Int32) (xu xv : Value) (xc0 xc1 xc2 xc3 : Int32) (h0 : Heap) (v : Option Value) (h : Heap) (L : List Loc) : Prop := ∃ (nb : Addr) (nk : ClassId), v = none ∧ oKp h0 h [xs] L ∧ (Exa Z h xs Y0) ∧ (Fld Z h xs Y0 "coder" "B" (.int (1 : Int32))) ∧ (Fld Z h xs Y0 "value" "[B" (.ref nb)) ∧ (h0.size ≤ nb) ∧ (Arv Z h nb nk .byte (8 : Int32) [(iu0 xc0), (iu8 xc0), (iu0 xc1), (iu8 xc1), (iu0 xc2), (iu8 xc2), (iu0 xc3), (iu8 xc3)] (.int (0 : Int32)))
theorem rI1U_4 (l : Launch) (Z : State) (a0 : Array Value) (hw : oHW a0 Z) (ws : List Jvm.Cond) (xs xa : Addr) (xk : ClassId) (xz : Int32) (xu xv : Value) (xc0 xc1 xc2 xc3 : Int32) (h0 : Heap) (O0 : Ext Z.heap h0) (S_COMPACT_STRINGS : Sta Z Z.heap Y0 Y6 "Z" (.int xz)) (hz : ¬ xz = (0 : Int32)) (S__assertionsDisabled : Sta Z Z.heap Y1 Y3 "Z" (.int (1 : Int32))) (S_HI_BYTE_SHIFT : Sta Z Z.heap Y1 "HI_BYTE_SHIFT" "I" (.int (0 : Int32))) (S_LO_BYTE_SHIFT : Sta Z Z.heap Y1 "LO_BYTE_SHIFT" "I" (.int (8 : Int32))) (og_xs : Z.heap.size ≤ xs) (E_xs : Exa Z h0 xs Y0) (F_value_xs : Fld Z h0 xs Y0 "value" "[B" xu) (F_coder_xs : Fld Z h0 xs Y0 "coder" "B" xv) (V_xa : Arv Z h0 xa xk .char (4 : Int32) [(.int xc0), (.int xc1), (.int xc2), (.int xc3)] (.int (0 : Int32))) (hr0 : 0 ≤ xc0.toInt ∧ xc0.toInt < 65536) (hr1 : 0 ≤ xc1.toInt ∧ xc1.toInt < 65536) (hr2 : 0 ≤ xc2.toInt ∧ xc2.toInt < 65536) (hr3 : 0 ≤ xc3.toInt ∧ xc3.toInt < 65536) (hU : ((255 : Int32) < xc0) ∨ (¬ (255 : Int32) < xc0 ∧ (255 : Int32) < xc1) ∨ (¬ (255 : Int32) < xc0 ∧ ¬ (255 : Int32) < xc1 ∧ (255 : Int32) < xc2) ∨ (¬ (255 : Int32) < xc0 ∧ ¬ (255 : Int32) < xc1 ∧ ¬ (255 : Int32) < xc2 ∧ (255 : Int32) < xc3)) :
    oCon l Z yy4 jdk_42_method_3_code 2 none ws ({ frames := 5, cells := 2, slots := 12, locals := 74 } : Room) #[(.ref xs), (.ref xa)] h0 (Q_rI1U_4 Z xs xa xk xz xu xv xc0 xc1 xc2 xc3 h0) := by
  refine oCon.of (plainFor_of_name pn_2) ?_
  intro p e s m below meth c T X hx hby hml hown hnm hret hlk hZ e0
  have hml : c.maxLocals = 2 := hml
  have K : oKp h0 h0 [xs] [] := oKp.nil _ _
  refine oWk.cast (g' := (mkF m 0 #[rv xs, rv xa] [])) (by first | rfl | (simp [entryFrame, mkF, argsToLocals, Value.category]; done)) ?_
  refine oWk.st (fun _ kt => zA X hx hby d1_0 rfl rfl rfl (zA X hx hby d1_1 rfl rfl rfl (zK X hx hby d1_2 rfl (zA X hx hby d1_3 rfl rfl rfl (oAl X hx hZ e0 V_xa hby d1_4 rfl rfl (XS.aconstNull X.here hx rfl (hb hby d1_5) kt)))))) ?_
  have lt_xs := E_xs.lt
  have lt_xa := V_xa.lt
  have Oh := K.old O0 (allS og_xs all0)
  obtain ⟨_, T, h, Lc3, X, e0, hQ, st⟩ := (cs4 hw).run X hx hZ hown e0 (A := [(.ref xs), (.ref xa), (.int (0 : Int32)), (.int (4 : Int32)), .null]) ⟨rfl, _, _, rfl⟩ (rI4U_4 l Z a0 hw [] xs xa xk xz xu xv xc0 xc1 xc2 xc3 h0 Oh S_COMPACT_STRINGS hz S__assertionsDisabled S_HI_BYTE_SHIFT S_LO_BYTE_SHIFT og_xs E_xs F_value_xs F_coder_xs V_xa hr0 hr1 hr2 hr3 hU) (W := 0) (by decide) hml (Ls := #[rv xs, rv xa]) rfl (rest := []) rfl rfl hby d1_6
  obtain ⟨nb2, nk2, rfl, K2, E_xs, F_coder_xs, F_value_xs, gn_nb2, V_nb2⟩ := hQ
  have ge_nb2 := Nat.le_trans K.le gn_nb2
  have ne_xs_nb2 : xs ≠ nb2 := Nat.ne_of_lt (Nat.lt_of_lt_of_le lt_xs gn_nb2)
  have ne_xa_nb2 : xa ≠ nb2 := Nat.ne_of_lt (Nat.lt_of_lt_of_le lt_xa gn_nb2)
  have K := K.call K2 (allS (Or.inl (List.mem_of_getElem? (i := 0) rfl)) all0)
  refine oWk.to (mkF m 9 #[rv xs, rv xa] []) (fun _ kt => st _ kt) ?_
  exact oRetV X hx hlk hret (hb hby d1_9) (by rw [e0]; exact ⟨nb2, nk2, rfl, K, E_xs, F_coder_xs, F_value_xs, ge_nb2, V_nb2⟩) (by decide) (by decide)
def Q_rEmL_0 (Z : State) (xa xb : Addr) (xk : ClassId) (h0 : Heap) (v : Option Value) (h : Heap) (L : List Loc) : Prop := v = some (.int (1 : Int32)) ∧ h = h0 ∧ oKp h0 h [] L
abbrev yy13 : MethodName := ⟨"java/lang/String", "isEmpty", "()Z"⟩
theorem d5_0 : decode jdk_42_method_55_code 0 = .ok (.aload_n 0, 1) := by decide +kernel
theorem d5_1 : decode jdk_42_method_55_code 1 = .ok (.getfield 9, 3) := by decide +kernel
theorem d5_4 : decode jdk_42_method_55_code 4 = .ok (.arraylength, 1) := by decide +kernel
theorem d5_5 : decode jdk_42_method_55_code 5 = .ok (.ifCond .ne 7, 3) := by decide +kernel
theorem d5_8 : decode jdk_42_method_55_code 8 = .ok (.iconst 1, 1) := by decide +kernel
theorem d5_9 : decode jdk_42_method_55_code 9 = .ok (.goto 4, 3) := by decide +kernel
theorem d5_13 : decode jdk_42_method_55_code 13 = .ok (.ireturn, 1) := by decide +kernel
theorem rEmL_0 (l : Launch) (Z : State) (a0 : Array Value) (hw : oHW a0 Z) (ws : List Jvm.Cond) (xa xb : Addr) (xk : ClassId) (h0 : Heap) (O0 : Ext Z.heap h0) (F_value_xa : Fld Z h0 xa Y0 "value" "[B" (.ref xb)) (V_xb : Arv Z h0 xb xk .byte (0 : Int32) [] (.int (0 : Int32))) :
    oCon l Z yy13 jdk_42_method_55_code 1 (some .boolean) ws ({ frames := 0, cells := 0, slots := 0, locals := 0 } : Room) #[(.ref xa)] h0 (Q_rEmL_0 Z xa xb xk h0) := by
  refine oCon.of (plainFor_of_name pn_2) ?_
  intro p e s m below meth c T X hx hby hml hown hnm hret hlk hZ e0
  have hml : c.maxLocals = 1 := hml
  have K : oKp h0 h0 [] [] := oKp.nil _ _
  refine oWk.cast (g' := (mkF m 0 #[rv xa] [])) (by first | rfl | (simp [entryFrame, mkF, argsToLocals, Value.category]; done)) ?_
  refine oWk.st (fun _ kt => zA X hx hby d5_0 rfl rfl rfl kt) ?_
  obtain ⟨T, X, e0, st⟩ := getF X hx hZ hown (host := "") (Or.inl (oW hw 22 rfl)) Via.refl e0 F_value_xa (g := (mkF m 1 #[rv xa] [(.ref xa)])) rfl rfl (hb hby d5_1)
  refine oWk.to (mkF m 13 #[rv xa] [(.int 1)]) (fun _ kt => st _ (oAl X hx hZ e0 V_xb hby d5_4 rfl rfl (zH X hx hby d5_5 rfl rfl ((if0 _ _).trans (teq (by decide)).2) (zK X hx hby d5_8 rfl (zG X hx hby d5_9 rfl (pc' := 13) rfl kt))))) ?_
  exact oRetZ X hx hlk hret (hb hby d5_13) (Or.inr rfl) (by rw [e0]; exact ⟨rfl, rfl, K⟩) (by decide) (by decide)
def Q_rSSL_0 (Z : State) (xa xb : Addr) (xk : ClassId) (h0 : Heap) (v : Option Value) (h : Heap) (L : List Loc) : Prop := v = some (.int (0 : Int32)) ∧ h = h0 ∧ oKp h0 h [] L
theorem pn_4 : plainName "com/example/modwright/modwright/install/InstanceFolder" = true := by first | (simp [plainName, overriddenIn]; done) | decide +kernel
abbrev yy14 : MethodName := ⟨"com/example/modwright/modwright/install/InstanceFolder", "isSafeSegment", "(Ljava/lang/String;)Z"⟩
theorem d4_0 : decode prog_11_method_4_code 0 = .ok (.aload_n 0, 1) := by decide +kernel
theorem d4_1 : decode prog_11_method_4_code 1 = .ok (.invokevirtual 59, 3) := by decide +kernel
theorem pd_9 : parseMethodDescriptor "()Z" = some ⟨[], some .boolean⟩ := by decide +kernel
theorem cs10 {a0 : Array Value} {Z : State} (hw : oHW a0 Z) : oCall Z Y7 (.invokevirtual 59) yy13 jdk_42_method_55_code 1 (some .boolean) (oRv Z 0 Y0) := oCall.virt (oW hw 28 rfl) (oW hw 29 rfl) (fun _ hZ => notFace_of_selects (args := #[]) (mvT hZ (oW hw 31 rfl))) (oW hw 31 rfl) (oW hw 30 rfl) (oW hw 5 rfl) (oW hw 32 rfl) (by decide) pd_9
theorem d4_4 : decode prog_11_method_4_code 4 = .ok (.ifCond .eq 5, 3) := by decide +kernel
theorem d4_7 : decode prog_11_method_4_code 7 = .ok (.iconst 0, 1) := by decide +kernel
theorem d4_8 : decode prog_11_method_4_code 8 = .ok (.ireturn, 1) := by decide +kernel
theorem rSSL_0 (l : Launch) (Z : State) (a0 : Array Value) (hw : oHW a0 Z) (ws : List Jvm.Cond) (xa xb : Addr) (xk : ClassId) (h0 : Heap) (O0 : Ext Z.heap h0) (E_xa : Exa Z h0 xa Y0) (F_coder_xa : Fld Z h0 xa Y0 "coder" "B" (.int (0 : Int32))) (F_value_xa : Fld Z h0 xa Y0 "value" "[B" (.ref xb)) (V_xb : Arv Z h0 xb xk .byte (0 : Int32) [] (.int (0 : Int32))) :
    oCon l Z yy14 prog_11_method_4_code 4 (some .boolean) ws ({ frames := 1, cells := 0, slots := 0, locals := 12 } : Room) #[(.ref xa)] h0 (Q_rSSL_0 Z xa xb xk h0) := by
  refine oCon.of (plainFor_of_name pn_4) ?_
  intro p e s m below meth c T X hx hby hml hown hnm hret hlk hZ e0
  have hml : c.maxLocals = 4 := hml
  have K : oKp h0 h0 [] [] := oKp.nil _ _
  refine oWk.cast (g' := (mkF m 0 #[rv xa, uu, uu, uu] [])) (by first | rfl | (simp [entryFrame, mkF, argsToLocals, Value.category]; done)) ?_
  refine oWk.st (fun _ kt => zA X hx hby d4_0 rfl rfl rfl kt) ?_
  have Oh := K.old O0 all0
  obtain ⟨T, L2, X, e0, K, st⟩ := (cs10 hw).pure X hx hZ hown e0 K (A := [(.ref xa)]) ⟨rfl, _, _, rfl, E_xa⟩ (rEmL_0 l Z a0 hw [] xa xb xk h0 Oh F_value_xa V_xb) (fun _ _ _ q => q) (W := 0) (by decide) hml (Ls := #[rv xa, uu, uu, uu]) rfl (rest := []) rfl rfl hby d4_1
  refine oWk.to (mkF m 8 #[rv xa, uu, uu, uu] [(.int 0)]) (fun _ kt => st _ (zH X hx hby d4_4 rfl rfl ((if0 _ _).trans (feq (by decide)).1) (zK X hx hby d4_7 rfl kt))) ?_
  exact oRetZ X hx hlk hret (hb hby d4_8) (Or.inl rfl) (by rw [e0]; exact ⟨rfl, rfl, K⟩) (by decide) (by decide)
def Q_rEmL_1 (Z : State) (xa xb : Addr) (xk : ClassId) (xc0 : Int32) (h0 : Heap) (v : Option Value) (h : Heap) (L : List Loc) : Prop := v = some (.int (0 : Int32)) ∧ h = h0 ∧ oKp h0 h [] L
theorem d5_12 : decode jdk_42_method_55_code 12 = .ok (.iconst 0, 1) := by decide +kernel
theorem rEmL_1 (l : Launch) (Z : State) (a0 : Array Value) (hw : oHW a0 Z) (ws : List Jvm.Cond) (xa xb : Addr) (xk : ClassId) (xc0 : Int32) (h0 : Heap) (O0 : Ext Z.heap h0) (F_value_xa : Fld Z h0 xa Y0 "value" "[B" (.ref xb)) (V_xb : Arv Z h0 xb xk .byte (1 : Int32) [(ib xc0)] (.int (0 : Int32))) :
    oCon l Z yy13 jdk_42_method_55_code 1 (some .boolean) ws ({ frames := 0, cells := 0, slots := 0, locals := 0 } : Room) #[(.ref xa)] h0 (Q_rEmL_1 Z xa xb xk xc0 h0) := by
  refine oCon.of (plainFor_of_name pn_2) ?_
  intro p e s m below meth c T X hx hby hml hown hnm hret hlk hZ e0
  have hml : c.maxLocals = 1 := hml
  have K : oKp h0 h0 [] [] := oKp.nil _ _
  refine oWk.cast (g' := (mkF m 0 #[rv xa] [])) (by first | rfl | (simp [entryFrame, mkF, argsToLocals, Value.category]; done)) ?_
  refine oWk.st (fun _ kt => zA X hx hby d5_0 rfl rfl rfl kt) ?_
  obtain ⟨T, X, e0, st⟩ := getF X hx hZ hown (host := "") (Or.inl (oW hw 22 rfl)) Via.refl e0 F_value_xa (g := (mkF m 1 #[rv xa] [(.ref xa)])) rfl rfl (hb hby d5_1)
  refine oWk.to (mkF m 13 #[rv xa] [(.int 0)]) (fun _ kt => st _ (oAl X hx hZ e0 V_xb hby d5_4 rfl rfl (zF X hx hby d5_5 rfl rfl ((if0 _ _).trans (feq (by decide)).2) (pc' := 12) rfl (zK X hx hby d5_12 rfl kt)))) ?_
  exact oRetZ X hx hlk hret (hb hby d5_13) (Or.inl rfl) (by rw [e0]; exact ⟨rfl, rfl, K⟩) (by decide) (by decide)
def Q_rCdr (Z : State) (xa : Addr) (xz : Int32) (h0 : Heap) (v : Option Value) (h : Heap) (L : List Loc) : Prop := v = some (.int (0 : Int32)) ∧ h = h0 ∧ oKp h0 h [] L
abbrev yy15 : MethodName := ⟨"java/lang/String", "coder", "()B"⟩
theorem d11_0 : decode jdk_42_method_152_code 0 = .ok (.getstatic 38, 3) := by decide +kernel
theorem d11_3 : decode jdk_42_method_152_code 3 = .ok (.ifCond .eq 10, 3) := by decide +kernel
theorem d11_6 : decode jdk_42_method_152_code 6 = .ok (.aload_n 0, 1) := by decide +kernel
theorem d11_7 : decode jdk_42_method_152_code 7 = .ok (.getfield 15, 3) := by decide +kernel
theorem d11_10 : decode jdk_42_method_152_code 10 = .ok (.goto 4, 3) := by decide +kernel
theorem d11_14 : decode jdk_42_method_152_code 14 = .ok (.ireturn, 1) := by decide +kernel
theorem rCdr (l : Launch) (Z : State) (a0 : Array Value) (hw : oHW a0 Z) (ws : List Jvm.Cond) (xa : Addr) (xz : Int32) (h0 : Heap) (O0 : Ext Z.heap h0) (S_COMPACT_STRINGS : Sta Z Z.heap Y0 Y6 "Z" (.int xz)) (hz : ¬ xz = (0 : Int32)) (F_coder_xa : Fld Z h0 xa Y0 "coder" "B" (.int (0 : Int32))) :
    oCon l Z yy15 jdk_42_method_152_code 1 (some .byte) ws ({ frames := 0, cells := 0, slots := 0, locals := 0 } : Room) #[(.ref xa)] h0 (Q_rCdr Z xa xz h0) := by
  refine oCon.of (plainFor_of_name pn_2) ?_
  intro p e s m below meth c T X hx hby hml hown hnm hret hlk hZ e0
  have hml : c.maxLocals = 1 := hml
  have K : oKp h0 h0 [] [] := oKp.nil _ _
  refine oWk.cast (g' := (mkF m 0 #[rv xa] [])) (by first | rfl | (simp [entryFrame, mkF, argsToLocals, Value.category]; done)) ?_
  have Oh := K.old O0 all0
  obtain ⟨T, X, e0, st⟩ := getS2 X hx hZ hown (host := "") (Or.inl (oW hw 37 rfl)) Via.refl e0 (S_COMPACT_STRINGS.ext Oh) (g := (mkF m 0 #[rv xa] [])) rfl (hb hby d11_0)
  refine oWk.st (fun _ kt => st _ (zH X hx hby d11_3 rfl rfl ((if0 _ _).trans (feq hz).1) (zA X hx hby d11_6 rfl rfl rfl kt))) ?_
  obtain ⟨T, X, e0, st⟩ := getF X hx hZ hown (host := "") (Or.inl (oW hw 23 rfl)) Via.refl e0 F_coder_xa (g := (mkF m 7 #[rv xa] [(.ref xa)])) rfl rfl (hb hby d11_7)
  refine oWk.to (mkF m 14 #[rv xa] [(.int 0)]) (fun _ kt => st _ (zG X hx hby d11_10 rfl (pc' := 14) rfl kt)) ?_
  exact oRetN X hx hlk hret (Or.inl rfl) rfl (hb hby d11_14) (by rw [e0]; exact ⟨rfl, rfl, K⟩) (by decide) (by decide)
def Q_rLn_1 (Z : State) (xa xb : Addr) (xk : ClassId) (xz xc0 : Int32) (h0 : Heap) (v : Option Value) (h : Heap) (L : List Loc) : Prop := v = some (.int (1 : Int32)) ∧ h = h0 ∧ oKp h0 h [] L
abbrev yy16 : MethodName := ⟨"java/lang/String", "length", "()I"⟩
theorem d10_0 : decode jdk_42_method_54_code 0 = .ok (.aload_n 0, 1) := by decide +kernel
theorem d10_1 : decode jdk_42_method_54_code 1 = .ok (.getfield 9, 3) := by decide +kernel
theorem d10_4 : decode jdk_42_method_54_code 4 = .ok (.arraylength, 1) := by decide +kernel
theorem d10_5 : decode jdk_42_method_54_code 5 = .ok (.aload_n 0, 1) := by decide +kernel
theorem d10_6 : decode jdk_42_method_54_code 6 = .ok (.invokevirtual 335, 3) := by decide +kernel
theorem pd_10 : parseMethodDescriptor "()B" = some ⟨[], some .byte⟩ := by decide +kernel
theorem cs11 {a0 : Array Value} {Z : State} (hw : oHW a0 Z) : oCall Z Y0 (.invokevirtual 335) yy15 jdk_42_method_152_code 1 (some .byte) (oRv Z 0 Y0) := oCall.virt (oW hw 53 rfl) (oW hw 54 rfl) (fun _ hZ => notFace_of_selects (args := #[]) (mvT hZ (oW hw 56 rfl))) (oW hw 56 rfl) (oW hw 55 rfl) (oW hw 5 rfl) (oW hw 57 rfl) (by decide) pd_10
theorem d10_9 : decode jdk_42_method_54_code 9 = .ok (.ishr, 1) := by decide +kernel
theorem d10_10 : decode jdk_42_method_54_code 10 = .ok (.ireturn, 1) := by decide +kernel
theorem rLn_1 (l : Launch) (Z : State) (a0 : Array Value) (hw : oHW a0 Z) (ws : List Jvm.Cond) (xa xb : Addr) (xk : ClassId) (xz xc0 : Int32) (h0 : Heap) (O0 : Ext Z.heap h0) (S_COMPACT_STRINGS : Sta Z Z.heap Y0 Y6 "Z" (.int xz)) (hz : ¬ xz = (0 : Int32)) (E_xa : Exa Z h0 xa Y0) (F_coder_xa : Fld Z h0 xa Y0 "coder" "B" (.int (0 : Int32))) (F_value_xa : Fld Z h0 xa Y0 "value" "[B" (.ref xb)) (V_xb : Arv Z h0 xb xk .byte (1 : Int32) [(ib xc0)] (.int (0 : Int32))) :
    oCon l Z yy16 jdk_42_method_54_code 1 (some .int) ws ({ frames := 1, cells := 0, slots := 0, locals := 13 } : Room) #[(.ref xa)] h0 (Q_rLn_1 Z xa xb xk xz xc0 h0) := by
  refine oCon.of (plainFor_of_name pn_2) ?_
  intro p e s m below meth c T X hx hby hml hown hnm hret hlk hZ e0
  have hml : c.maxLocals = 1 := hml
  have K : oKp h0 h0 [] [] := oKp.nil _ _
  refine oWk.cast (g' := (mkF m 0 #[rv xa] [])) (by first | rfl | (simp [entryFrame, mkF, argsToLocals, Value.category]; done)) ?_
  refine oWk.st (fun _ kt => zA X hx hby d10_0 rfl rfl rfl kt) ?_
  obtain ⟨T, X, e0, st⟩ := getF X hx hZ hown (host := "") (Or.inl (oW hw 22 rfl)) Via.refl e0 F_value_xa (g := (mkF m 1 #[rv xa] [(.ref xa)])) rfl rfl (hb hby d10_1)
  refine oWk.st (fun _ kt => st _ (oAl X hx hZ e0 V_xb hby d10_4 rfl rfl (zA X hx hby d10_5 rfl rfl rfl kt))) ?_
  have Oh := K.old O0 all0
  obtain ⟨T, L3, X, e0, K, st⟩ := (cs11 hw).pure X hx hZ hown e0 K (A := [(.ref xa)]) ⟨rfl, _, _, rfl, E_xa⟩ (rCdr l Z a0 hw [] xa xz h0 Oh S_COMPACT_STRINGS hz F_coder_xa) (fun _ _ _ q => q) (W := 1) (by decide) hml (Ls := #[rv xa]) rfl (rest := [(.int (1 : Int32))]) rfl rfl hby d10_6
  refine oWk.to (mkF m 10 #[rv xa] [(.int 1)]) (fun _ kt => st _ (XS.ishr X.here hx rfl (hb hby d10_9) rfl kt)) ?_
  exact oRetI X hx hlk hret (hb hby d10_10) (by rw [e0]; exact ⟨rfl, rfl, K⟩) (by decide) (by decide)
def Q_rIsL (Z : State) (xa : Addr) (xz : Int32) (h0 : Heap) (v : Option Value) (h : Heap) (L : List Loc) : Prop := v = some (.int (1 : Int32)) ∧ h = h0 ∧ oKp h0 h [] L
abbrev yy17 : MethodName := ⟨"java/lang/String", "isLatin1", "()Z"⟩
theorem d13_0 : decode jdk_42_method_154_code 0 = .ok (.getstatic 38, 3) := by decide +kernel
theorem d13_3 : decode jdk_42_method_154_code 3 = .ok (.ifCond .eq 14, 3) := by decide +kernel
theorem d13_6 : decode jdk_42_method_154_code 6 = .ok (.aload_n 0, 1) := by decide +kernel
theorem d13_7 : decode jdk_42_method_154_code 7 = .ok (.getfield 15, 3) := by decide +kernel
theorem d13_10 : decode jdk_42_method_154_code 10 = .ok (.ifCond .ne 7, 3) := by decide +kernel
theorem d13_13 : decode jdk_42_method_154_code 13 = .ok (.iconst 1, 1) := by decide +kernel
theorem d13_14 : decode jdk_42_method_154_code 14 = .ok (.goto 4, 3) := by decide +kernel
theorem d13_18 : decode jdk_42_method_154_code 18 = .ok (.ireturn, 1) := by decide +kernel
theorem rIsL (l : Launch) (Z : State) (a0 : Array Value) (hw : oHW a0 Z) (ws : List Jvm.Cond) (xa : Addr) (xz : Int32) (h0 : Heap) (O0 : Ext Z.heap h0) (S_COMPACT_STRINGS : Sta Z Z.heap Y0 Y6 "Z" (.int xz)) (hz : ¬ xz = (0 : Int32)) (F_coder_xa : Fld Z h0 xa Y0 "coder" "B" (.int (0 : Int32))) :
    oCon l Z yy17 jdk_42_method_154_code 1 (some .boolean) ws ({ frames := 0, cells := 0, slots := 0, locals := 0 } : Room) #[(.ref xa)] h0 (Q_rIsL Z xa xz h0) := by
  refine oCon.of (plainFor_of_name pn_2) ?_
  intro p e s m below meth c T X hx hby hml hown hnm hret hlk hZ e0
  have hml : c.maxLocals = 1 := hml
  have K : oKp h0 h0 [] [] := oKp.nil _ _
  refine oWk.cast (g' := (mkF m 0 #[rv xa] [])) (by first | rfl | (simp [entryFrame, mkF, argsToLocals, Value.category]; done)) ?_
  have Oh := K.old O0 all0
  obtain ⟨T, X, e0, st⟩ := getS2 X hx hZ hown (host := "") (Or.inl (oW hw 37 rfl)) Via.refl e0 (S_COMPACT_STRINGS.ext Oh) (g := (mkF m 0 #[rv xa] [])) rfl (hb hby d13_0)
  refine oWk.st (fun _ kt => st _ (zH X hx hby d13_3 rfl rfl ((if0 _ _).trans (feq hz).1) (zA X hx hby d13_6 rfl rfl rfl kt))) ?_
  obtain ⟨T, X, e0, st⟩ := getF X hx hZ hown (host := "") (Or.inl (oW hw 23 rfl)) Via.refl e0 F_coder_xa (g := (mkF m 7 #[rv xa] [(.ref xa)])) rfl rfl (hb hby d13_7)
  refine oWk.to (mkF m 18 #[rv xa] [(.int 1)]) (fun _ kt => st _ (zH X hx hby d13_10 rfl rfl ((if0 _ _).trans (teq (by decide)).2) (zK X hx hby d13_13 rfl (zG X hx hby d13_14 rfl (pc' := 18) rfl kt)))) ?_
  exact oRetZ X hx hlk hret (hb hby d13_18) (Or.inr rfl) (by rw [e0]; exact ⟨rfl, rfl, K⟩) (by decide) (by decide)
def Q_rPCk (Z : State) (xi xn : Int32) (xfm : Value) (h0 : Heap) (v : Option Value) (h : Heap) (L : List Loc) : Prop := v = some (.int xi) ∧ h = h0 ∧ oKp h0 h [] L
theorem pn_5 : plainName "jdk/internal/util/Preconditions" = true := by first | (simp [plainName, overriddenIn]; done) | decide +kernel
abbrev yy18 : MethodName := ⟨"jdk/internal/util/Preconditions", "checkIndex", "(IILjava/util/function/BiFunction;)I"⟩
theorem d16_0 : decode jdk_41_method_11_code 0 = .ok (.iload_n 0, 1) := by decide +kernel
theorem d16_1 : decode jdk_41_method_11_code 1 = .ok (.ifCond .lt 8, 3) := by decide +kernel
theorem d16_4 : decode jdk_41_method_11_code 4 = .ok (.iload_n 0, 1) := by decide +kernel
theorem d16_5 : decode jdk_41_method_11_code 5 = .ok (.iload_n 1, 1) := by decide +kernel
theorem d16_6 : decode jdk_41_method_11_code 6 = .ok (.if_icmp .lt 10, 3) := by decide +kernel
theorem d16_16 : decode jdk_41_method_11_code 16 = .ok (.iload_n 0, 1) := by decide +kernel
theorem d16_17 : decode jdk_41_method_11_code 17 = .ok (.ireturn, 1) := by decide +kernel
theorem rPCk (l : Launch) (Z : State) (a0 : Array Value) (hw : oHW a0 Z) (ws : List Jvm.Cond) (xi xn : Int32) (xfm : Value) (h0 : Heap) (O0 : Ext Z.heap h0) (hcat : xfm.category = 1) (h1 : ¬ xi < (0 : Int32)) (h2 : xi < xn) :
    oCon l Z yy18 jdk_41_method_11_code 3 (some .int) ws ({ frames := 0, cells := 0, slots := 0, locals := 0 } : Room) #[(.int xi), (.int xn), xfm] h0 (Q_rPCk Z xi xn xfm h0) := by
  refine oCon.of (plainFor_of_name pn_5) ?_
  intro p e s m below meth c T X hx hby hml hown hnm hret hlk hZ e0
  have hml : c.maxLocals = 3 := hml
  have K : oKp h0 h0 [] [] := oKp.nil _ _
  refine oWk.cast (g' := (mkF m 0 #[iv xi, iv xn, .val xfm] [])) (by cases xfm <;> first | rfl | exact absurd hcat (by simp [Value.category])) ?_
  refine oWk.to (mkF m 17 #[iv xi, iv xn, .val xfm] [(.int xi)]) (fun _ kt => zI X hx hby d16_0 rfl rfl (zH X hx hby d16_1 rfl rfl ((if0 _ _).trans (flt h1).1) (zI X hx hby d16_4 rfl rfl (zI X hx hby d16_5 rfl rfl (zY X hx hby d16_6 rfl rfl (tlt h2).1 (pc' := 16) rfl (zI X hx hby d16_16 rfl rfl kt)))))) ?_
  exact oRetI X hx hlk hret (hb hby d16_17) (by rw [e0]; exact ⟨rfl, rfl, K⟩) (by decide) (by decide)
def Q_rCkI (Z : State) (xi xn : Int32) (xfm : Value) (h0 : Heap) (v : Option Value) (h : Heap) (L : List Loc) : Prop := v = none ∧ h = h0 ∧ oKp h0 h [] L
abbrev yy19 : MethodName := ⟨"java/lang/String", "checkIndex", "(II)V"⟩
theorem d15_0 : decode jdk_42_method_155_code 0 = .ok (.iload_n 0, 1) := by decide +kernel
theorem d15_1 : decode jdk_42_method_155_code 1 = .ok (.iload_n 1, 1) := by decide +kernel
theorem d15_2 : decode jdk_42_method_155_code 2 = .ok (.getstatic 1053, 3) := by decide +kernel
theorem d15_5 : decode jdk_42_method_155_code 5 = .ok (.invokestatic 1059, 3) := by decide +kernel
theorem pd_11 : parseMethodDescriptor "(IILjava/util/function/BiFunction;)I" = some ⟨[.int, .int, (.object "java/util/function/BiFunction")], some .int⟩ := by decide +kernel
theorem cs12 {a0 : Array Value} {Z : State} (hw : oHW a0 Z) : oCall Z Y0 (.invokestatic 1059) yy18 jdk_41_method_11_code 3 (some .int) (oRs 3) := oCall.stat (oW hw 77 rfl) (oW hw 78 rfl) (oW hw 76 rfl) (oW hw 79 rfl) (by decide) pd_11
theorem d15_8 : decode jdk_42_method_155_code 8 = .ok (.pop, 1) := by decide +kernel
theorem d15_9 : decode jdk_42_method_155_code 9 = .ok (.return_, 1) := by decide +kernel
theorem rCkI (l : Launch) (Z : State) (a0 : Array Value) (hw : oHW a0 Z) (ws : List Jvm.Cond) (xi xn : Int32) (xfm : Value) (h0 : Heap) (O0 : Ext Z.heap h0) (S_SIOOBE_FORMATTER : Sta Z Z.heap Y2 Y4 Y5 xfm) (hcat : xfm.category = 1) (h1 : ¬ xi < (0 : Int32)) (h2 : xi < xn) :
    oCon l Z yy19 jdk_42_method_155_code 2 none ws ({ frames := 1, cells := 0, slots := 0, locals := 14 } : Room) #[(.int xi), (.int xn)] h0 (Q_rCkI Z xi xn xfm h0) := by
  refine oCon.of (plainFor_of_name pn_2) ?_
  intro p e s m below meth c T X hx hby hml hown hnm hret hlk hZ e0
  have hml : c.maxLocals = 2 := hml
  have K : oKp h0 h0 [] [] := oKp.nil _ _
  refine oWk.cast (g' := (mkF m 0 #[iv xi, iv xn] [])) (by first | rfl | (simp [entryFrame, mkF, argsToLocals, Value.category]; done)) ?_
  refine oWk.st (fun _ kt => zI X hx hby d15_0 rfl rfl (zI X hx hby d15_1 rfl rfl kt)) ?_
  have Oh := K.old O0 all0
  obtain ⟨T, X, e0, st⟩ := getS2 X hx hZ hown (host := "") (Or.inl (oW hw 75 rfl)) Via.refl e0 (S_SIOOBE_FORMATTER.ext Oh) (g := (mkF m 2 #[iv xi, iv xn] [(.int xn), (.int xi)])) rfl (hb hby d15_2)
  refine oWk.st (fun _ kt => st _ kt) ?_
  obtain ⟨T, L2, X, e0, K, st⟩ := (cs12 hw).pure X hx hZ hown e0 K (A := [(.int xi), (.int xn), xfm]) rfl (rPCk l Z a0 hw [] xi xn xfm h0 Oh hcat h1 h2) (fun _ _ _ q => q) (W := 0) (by decide) hml (Ls := #[iv xi, iv xn]) rfl (rest := []) rfl rfl hby d15_5
  refine oWk.to (mkF m 9 #[iv xi, iv xn] []) (fun _ kt => st _ (XS.pop X.here hx rfl (hb hby d15_8) rfl rfl kt)) ?_
  exact oRetV X hx hlk hret (hb hby d15_9) (by rw [e0]; exact ⟨rfl, rfl, K⟩) (by decide) (by decide)
def Q_rLC_1_0 (Z : State) (xb : Addr) (xk : ClassId) (xfm : Value) (xc0 : Int32) (h0 : Heap) (v : Option Value) (h : Heap) (L : List Loc) : Prop := v = some (.int xc0) ∧ h = h0 ∧ oKp h0 h [] L
theorem pn_6 : plainName "java/lang/StringLatin1" = true := by first | (simp [plainName, overriddenIn]; done) | decide +kernel
abbrev yy20 : MethodName := ⟨"java/lang/StringLatin1", "charAt", "([BI)C"⟩
theorem d14_0 : decode jdk_43_method_2_code 0 = .ok (.iload_n 1, 1) := by decide +kernel
theorem d14_1 : decode jdk_43_method_2_code 1 = .ok (.aload_n 0, 1) := by decide +kernel
theorem d14_2 : decode jdk_43_method_2_code 2 = .ok (.arraylength, 1) := by decide +kernel
theorem d14_3 : decode jdk_43_method_2_code 3 = .ok (.invokestatic 9, 3) := by decide +kernel
theorem pd_12 : parseMethodDescriptor "(II)V" = some ⟨[.int, .int], none⟩ := by decide +kernel
theorem cs13 {a0 : Array Value} {Z : State} (hw : oHW a0 Z) : oCall Z "java/lang/StringLatin1" (.invokestatic 9) yy19 jdk_42_method_155_code 2 none (oRs 2) := oCall.stat (oW hw 72 rfl) (oW hw 73 rfl) (oW hw 5 rfl) (oW hw 74 rfl) (by decide) pd_12
theorem d14_6 : decode jdk_43_method_2_code 6 = .ok (.aload_n 0, 1) := by decide +kernel
theorem d14_7 : decode jdk_43_method_2_code 7 = .ok (.iload_n 1, 1) := by decide +kernel
theorem d14_8 : decode jdk_43_method_2_code 8 = .ok (.baload, 1) := by decide +kernel
theorem d14_9 : decode jdk_43_method_2_code 9 = .ok (.sipush 255, 3) := by decide +kernel
theorem d14_12 : decode jdk_43_method_2_code 12 = .ok (.iand, 1) := by decide +kernel
theorem d14_13 : decode jdk_43_method_2_code 13 = .ok (.i2c, 1) := by decide +kernel
theorem d14_14 : decode jdk_43_method_2_code 14 = .ok (.ireturn, 1) := by decide +kernel
theorem rLC_1_0 (l : Launch) (Z : State) (a0 : Array Value) (hw : oHW a0 Z) (ws : List Jvm.Cond) (xb : Addr) (xk : ClassId) (xfm : Value) (xc0 : Int32) (h0 : Heap) (O0 : Ext Z.heap h0) (S_SIOOBE_FORMATTER : Sta Z Z.heap Y2 Y4 Y5 xfm) (hcat : xfm.category = 1) (hr : 0 ≤ xc0.toInt ∧ xc0.toInt < 256) (V_xb : Arv Z h0 xb xk .byte (1 : Int32) [(ib xc0)] (.int (0 : Int32))) :
    oCon l Z yy20 jdk_43_method_2_code 2 (some .char) ws ({ frames := 2, cells := 0, slots := 0, locals := 27 } : Room) #[(.ref xb), (.int (0 : Int32))] h0 (Q_rLC_1_0 Z xb xk xfm xc0 h0) := by
  refine oCon.of (plainFor_of_name pn_6) ?_
  intro p e s m below meth c T X hx hby hml hown hnm hret hlk hZ e0
  have hml : c.maxLocals = 2 := hml
  have K : oKp h0 h0 [] [] := oKp.nil _ _
  refine oWk.cast (g' := (mkF m 0 #[rv xb, iv 0] [])) (by first | rfl | (simp [entryFrame, mkF, argsToLocals, Value.category]; done)) ?_
  refine oWk.st (fun _ kt => zI X hx hby d14_0 rfl rfl (zA X hx hby d14_1 rfl rfl rfl (oAl X hx hZ e0 V_xb hby d14_2 rfl rfl kt))) ?_
  have Oh := K.old O0 all0
  obtain ⟨T, L3, X, e0, K, st⟩ := (cs13 hw).pure X hx hZ hown e0 K (A := [(.int (0 : Int32)), (.int (1 : Int32))]) rfl (rCkI l Z a0 hw [] (0 : Int32) (1 : Int32) xfm h0 Oh S_SIOOBE_FORMATTER hcat (by decide) (by decide)) (fun _ _ _ q => q) (W := 0) (by decide) hml (Ls := #[rv xb, iv 0]) rfl (rest := []) rfl rfl hby d14_3
  refine oWk.to (mkF m 14 #[rv xb, iv 0] [(.int (((xc0.toInt8.toInt32) &&& (255 : Int32)).toUInt32.toUInt16.toUInt32.toInt32))]) (fun _ kt => st _ (zA X hx hby d14_6 rfl rfl rfl (zI X hx hby d14_7 rfl rfl (oLdB X hx hZ e0 V_xb (0 : Int32) (ib xc0) ⟨by decide, by decide⟩ rfl hby d14_8 rfl rfl (zM X hx hby d14_9 rfl (XS.iand X.here hx rfl (hb hby d14_12) rfl (XS.i2c X.here hx rfl (hb hby d14_13) rfl kt))))))) ?_
  rw [oBk hr]
  show oWk _ _ _ _ T (mkF m 14 #[rv xb, iv 0] [(.int xc0)])
  exact oRetN X hx hlk hret (Or.inr (Or.inl rfl)) (show narrow .char (.int xc0) = .int xc0 from congrArg Value.int (oChr hr)) (hb hby d14_14) (by rw [e0]; exact ⟨rfl, rfl, K⟩) (by decide) (by decide)
def Q_rCA_1_0 (Z : State) (xa xb : Addr) (xk : ClassId) (xfm : Value) (xz xc0 : Int32) (h0 : Heap) (v : Option Value) (h : Heap) (L : List Loc) : Prop := v = some (.int xc0) ∧ h = h0 ∧ oKp h0 h [] L
abbrev yy21 : MethodName := ⟨"java/lang/String", "charAt", "(I)C"⟩
theorem d12_0 : decode jdk_42_method_56_code 0 = .ok (.aload_n 0, 1) := by decide +kernel
theorem d12_1 : decode jdk_42_method_56_code 1 = .ok (.invokevirtual 492, 3) := by decide +kernel
theorem cs14 {a0 : Array Value} {Z : State} (hw : oHW a0 Z) : oCall Z Y0 (.invokevirtual 492) yy17 jdk_42_method_154_code 1 (some .boolean) (oRv Z 0 Y0) := oCall.virt (oW hw 63 rfl) (oW hw 64 rfl) (fun _ hZ => notFace_of_selects (args := #[]) (mvT hZ (oW hw 66 rfl))) (oW hw 66 rfl) (oW hw 65 rfl) (oW hw 5 rfl) (oW hw 67 rfl) (by decide) pd_9
theorem d12_4 : decode jdk_42_method_56_code 4 = .ok (.ifCond .eq 12, 3) := by decide +kernel
theorem d12_7 : decode jdk_42_method_56_code 7 = .ok (.aload_n 0, 1) := by decide +kernel
theorem d12_8 : decode jdk_42_method_56_code 8 = .ok (.getfield 9, 3) := by decide +kernel
theorem d12_11 : decode jdk_42_method_56_code 11 = .ok (.iload_n 1, 1) := by decide +kernel
theorem d12_12 : decode jdk_42_method_56_code 12 = .ok (.invokestatic 495, 3) := by decide +kernel
theorem cs15 {a0 : Array Value} {Z : State} (hw : oHW a0 Z) : oCall Z Y0 (.invokestatic 495) yy20 jdk_43_method_2_code 2 (some .char) (oRs 2) := oCall.stat (oW hw 68 rfl) (oW hw 69 rfl) (oW hw 70 rfl) (oW hw 71 rfl) (by decide) pd_8
theorem d12_15 : decode jdk_42_method_56_code 15 = .ok (.ireturn, 1) := by decide +kernel
theorem rCA_1_0 (l : Launch) (Z : State) (a0 : Array Value) (hw : oHW a0 Z) (ws : List Jvm.Cond) (xa xb : Addr) (xk : ClassId) (xfm : Value) (xz xc0 : Int32) (h0 : Heap) (O0 : Ext Z.heap h0) (S_COMPACT_STRINGS : Sta Z Z.heap Y0 Y6 "Z" (.int xz)) (hz : ¬ xz = (0 : Int32)) (S_SIOOBE_FORMATTER : Sta Z Z.heap Y2 Y4 Y5 xfm) (hcat : xfm.category = 1) (hr : 0 ≤ xc0.toInt ∧ xc0.toInt < 256) (E_xa : Exa Z h0 xa Y0) (F_coder_xa : Fld Z h0 xa Y0 "coder" "B" (.int (0 : Int32))) (F_value_xa : Fld Z h0 xa Y0 "value" "[B" (.ref xb)) (V_xb : Arv Z h0 xb xk .byte (1 : Int32) [(ib xc0)] (.int (0 : Int32))) :
    oCon l Z yy21 jdk_42_method_56_code 2 (some .char) ws ({ frames := 3, cells := 0, slots := 0, locals := 40 } : Room) #[(.ref xa), (.int (0 : Int32))] h0 (Q_rCA_1_0 Z xa xb xk xfm xz xc0 h0) := by
  refine oCon.of (plainFor_of_name pn_2) ?_
  intro p e s m below meth c T X hx hby hml hown hnm hret hlk hZ e0
  have hml : c.maxLocals = 2 := hml
  have K : oKp h0 h0 [] [] := oKp.nil _ _
  refine oWk.cast (g' := (mkF m 0 #[rv xa, iv 0] [])) (by first | rfl | (simp [entryFrame, mkF, argsToLocals, Value.category]; done)) ?_
  refine oWk.st (fun _ kt => zA X hx hby d12_0 rfl rfl rfl kt) ?_
  have Oh := K.old O0 all0
  obtain ⟨T, L2, X, e0, K, st⟩ := (cs14 hw).pure X hx hZ hown e0 K (A := [(.ref xa)]) ⟨rfl, _, _, rfl, E_xa⟩ (rIsL l Z a0 hw [] xa xz h0 Oh S_COMPACT_STRINGS hz F_coder_xa) (fun _ _ _ q => q) (W := 0) (by decide) hml (Ls := #[rv xa, iv 0]) rfl (rest := []) rfl rfl hby d12_1
  refine oWk.st (fun _ kt => st _ (zH X hx hby d12_4 rfl rfl ((if0 _ _).trans (feq (by decide)).1) (zA X hx hby d12_7 rfl rfl rfl kt))) ?_
  obtain ⟨T, X, e0, st⟩ := getF X hx hZ hown (host := "") (Or.inl (oW hw 22 rfl)) Via.refl e0 F_value_xa (g := (mkF m 8 #[rv xa, iv 0] [(.ref xa)])) rfl rfl (hb hby d12_8)
  refine oWk.st (fun _ kt => st _ (zI X hx hby d12_11 rfl rfl kt)) ?_
  obtain ⟨T, L4, X, e0, K, st⟩ := (cs15 hw).pure X hx hZ hown e0 K (A := [(.ref xb), (.int (0 : Int32))]) rfl (rLC_1_0 l Z a0 hw [] xb xk xfm xc0 h0 Oh S_SIOOBE_FORMATTER hcat hr V_xb) (fun _ _ _ q => q) (W := 0) (by decide) hml (Ls := #[rv xa, iv 0]) rfl (rest := []) rfl rfl hby d12_12
  refine oWk.to (mkF m 15 #[rv xa, iv 0] [(.int xc0)]) (fun _ kt => st _ kt) ?_
  exact oRetN X hx hlk hret (Or.inr (Or.inl rfl)) (show narrow .char (.int xc0) = .int xc0 from congrArg Value.int (oChr hr)) (hb hby d12_15) (by rw [e0]; exact ⟨rfl, rfl, K⟩) (by decide) (by decide)
def Q_rSSL_1 (Z : State) (xa xb : Addr) (xk : ClassId) (xfm : Value) (xz xc0 : Int32) (h0 : Heap) (v : Option Value) (h : Heap) (L : List Loc) : Prop := v = some (.int (oBi (¬ xc0 = (46 : Int32) ∧ ¬ xc0 = (32 : Int32) ∧ oPl xc0))) ∧ h = h0 ∧ oKp h0 h [] L
theorem d4_9 : decode prog_11_method_4_code 9 = .ok (.aload_n 0, 1) := by decide +kernel
theorem d4_10 : decode prog_11_method_4_code 10 = .ok (.aload_n 0, 1) := by decide +kernel
theorem d4_11 : decode prog_11_method_4_code 11 = .ok (.invokevirtual 63, 3) := by decide +kernel
theorem pd_13 : parseMethodDescriptor "()I" = some ⟨[], some .int⟩ := by decide +kernel
theorem cs16 {a0 : Array Value} {Z : State} (hw : oHW a0 Z) : oCall Z Y7 (.invokevirtual 63) yy16 jdk_42_method_54_code 1 (some .int) (oRv Z 0 Y0) := oCall.virt (oW hw 48 rfl) (oW hw 49 rfl) (fun _ hZ => notFace_of_selects (args := #[]) (mvT hZ (oW hw 51 rfl))) (oW hw 51 rfl) (oW hw 50 rfl) (oW hw 5 rfl) (oW hw 52 rfl) (by decide) pd_13
theorem d4_14 : decode prog_11_method_4_code 14 = .ok (.iconst 1, 1) := by decide +kernel
theorem d4_15 : decode prog_11_method_4_code 15 = .ok (.isub, 1) := by decide +kernel
theorem d4_16 : decode prog_11_method_4_code 16 = .ok (.invokevirtual 67, 3) := by decide +kernel
theorem pd_14 : parseMethodDescriptor "(I)C" = some ⟨[.int], some .char⟩ := by decide +kernel
theorem cs17 {a0 : Array Value} {Z : State} (hw : oHW a0 Z) : oCall Z Y7 (.invokevirtual 67) yy21 jdk_42_method_56_code 2 (some .char) (oRv Z 1 Y0) := oCall.virt (oW hw 58 rfl) (oW hw 59 rfl) (fun _ hZ => notFace_of_selects (args := #[]) (mvT hZ (oW hw 61 rfl))) (oW hw 61 rfl) (oW hw 60 rfl) (oW hw 5 rfl) (oW hw 62 rfl) (by decide) pd_14
theorem d4_19 : decode prog_11_method_4_code 19 = .ok (.istore_n 1, 1) := by decide +kernel
theorem d4_20 : decode prog_11_method_4_code 20 = .ok (.bipush 46, 2) := by decide +kernel
theorem d4_22 : decode prog_11_method_4_code 22 = .ok (.iload_n 1, 1) := by decide +kernel
theorem d4_23 : decode prog_11_method_4_code 23 = .ok (.if_icmp .eq 9, 3) := by decide +kernel
theorem d4_32 : decode prog_11_method_4_code 32 = .ok (.iconst 0, 1) := by decide +kernel
theorem d4_33 : decode prog_11_method_4_code 33 = .ok (.ireturn, 1) := by decide +kernel
theorem d4_26 : decode prog_11_method_4_code 26 = .ok (.bipush 32, 2) := by decide +kernel
theorem d4_28 : decode prog_11_method_4_code 28 = .ok (.iload_n 1, 1) := by decide +kernel
theorem d4_29 : decode prog_11_method_4_code 29 = .ok (.if_icmp .ne 5, 3) := by decide +kernel
theorem d4_34 : decode prog_11_method_4_code 34 = .ok (.iconst 0, 1) := by decide +kernel
theorem d4_35 : decode prog_11_method_4_code 35 = .ok (.istore_n 2, 1) := by decide +kernel
theorem d4_36 : decode prog_11_method_4_code 36 = .ok (.iload_n 2, 1) := by decide +kernel
theorem d4_37 : decode prog_11_method_4_code 37 = .ok (.aload_n 0, 1) := by decide +kernel
theorem d4_38 : decode prog_11_method_4_code 38 = .ok (.invokevirtual 63, 3) := by decide +kernel
theorem d4_41 : decode prog_11_method_4_code 41 = .ok (.if_icmp .ge 42, 3) := by decide +kernel
theorem d4_44 : decode prog_11_method_4_code 44 = .ok (.aload_n 0, 1) := by decide +kernel
theorem d4_45 : decode prog_11_method_4_code 45 = .ok (.iload_n 2, 1) := by decide +kernel
theorem d4_46 : decode prog_11_method_4_code 46 = .ok (.invokevirtual 67, 3) := by decide +kernel
theorem d4_49 : decode prog_11_method_4_code 49 = .ok (.istore_n 3, 1) := by decide +kernel
theorem d4_50 : decode prog_11_method_4_code 50 = .ok (.bipush 47, 2) := by decide +kernel
theorem d4_52 : decode prog_11_method_4_code 52 = .ok (.iload_n 3, 1) := by decide +kernel
theorem d4_53 : decode prog_11_method_4_code 53 = .ok (.if_icmp .eq 22, 3) := by decide +kernel
theorem d4_75 : decode prog_11_method_4_code 75 = .ok (.iconst 0, 1) := by decide +kernel
theorem d4_76 : decode prog_11_method_4_code 76 = .ok (.ireturn, 1) := by decide +kernel
theorem d4_56 : decode prog_11_method_4_code 56 = .ok (.bipush 92, 2) := by decide +kernel
theorem d4_58 : decode prog_11_method_4_code 58 = .ok (.iload_n 3, 1) := by decide +kernel
theorem d4_59 : decode prog_11_method_4_code 59 = .ok (.if_icmp .eq 16, 3) := by decide +kernel
theorem d4_62 : decode prog_11_method_4_code 62 = .ok (.bipush 58, 2) := by decide +kernel
theorem d4_64 : decode prog_11_method_4_code 64 = .ok (.iload_n 3, 1) := by decide +kernel
theorem d4_65 : decode prog_11_method_4_code 65 = .ok (.if_icmp .eq 10, 3) := by decide +kernel
theorem d4_68 : decode prog_11_method_4_code 68 = .ok (.iload_n 3, 1) := by decide +kernel
theorem d4_69 : decode prog_11_method_4_code 69 = .ok (.invokestatic 71, 3) := by decide +kernel
theorem pd_15 : parseMethodDescriptor "(C)Z" = some ⟨[.char], some .boolean⟩ := by decide +kernel
theorem cs18 {a0 : Array Value} {Z : State} (hw : oHW a0 Z) : oCall Z Y7 (.invokestatic 71) yy1 jdk_89_method_88_code 1 (some .boolean) (oRs 1) := oCall.stat (oW hw 80 rfl) (oW hw 81 rfl) (oW hw 82 rfl) (oW hw 83 rfl) (by decide) pd_15
theorem d4_72 : decode prog_11_method_4_code 72 = .ok (.ifCond .eq 5, 3) := by decide +kernel
theorem d4_77 : decode prog_11_method_4_code 77 = .ok (.iinc 2 1, 3) := by decide +kernel
theorem d4_80 : decode prog_11_method_4_code 80 = .ok (.goto (-44), 3) := by decide +kernel
theorem d4_83 : decode prog_11_method_4_code 83 = .ok (.iconst 1, 1) := by decide +kernel
theorem d4_84 : decode prog_11_method_4_code 84 = .ok (.ireturn, 1) := by decide +kernel
theorem rSSL_1 (l : Launch) (Z : State) (a0 : Array Value) (hw : oHW a0 Z) (ws : List Jvm.Cond) (xa xb : Addr) (xk : ClassId) (xfm : Value) (xz xc0 : Int32) (h0 : Heap) (O0 : Ext Z.heap h0) (S_COMPACT_STRINGS : Sta Z Z.heap Y0 Y6 "Z" (.int xz)) (hz : ¬ xz = (0 : Int32)) (S_SIOOBE_FORMATTER : Sta Z Z.heap Y2 Y4 Y5 xfm) (hcat : xfm.category = 1) (E_xa : Exa Z h0 xa Y0) (F_coder_xa : Fld Z h0 xa Y0 "coder" "B" (.int (0 : Int32))) (F_value_xa : Fld Z h0 xa Y0 "value" "[B" (.ref xb)) (V_xb : Arv Z h0 xb xk .byte (1 : Int32) [(ib xc0)] (.int (0 : Int32))) (hr0 : 0 ≤ xc0.toInt ∧ xc0.toInt < 256) :
    oCon l Z yy14 prog_11_method_4_code 4 (some .boolean) ws ({ frames := 4, cells := 0, slots := 0, locals := 53 } : Room) #[(.ref xa)] h0 (Q_rSSL_1 Z xa xb xk xfm xz xc0 h0) := by
  refine oCon.of (plainFor_of_name pn_4) ?_
  intro p e s m below meth c T X hx hby hml hown hnm hret hlk hZ e0
  have hml : c.maxLocals = 4 := hml
  have K : oKp h0 h0 [] [] := oKp.nil _ _
  refine oWk.cast (g' := (mkF m 0 #[rv xa, uu, uu, uu] [])) (by first | rfl | (simp [entryFrame, mkF, argsToLocals, Value.category]; done)) ?_
  refine oWk.st (fun _ kt => zA X hx hby d4_0 rfl rfl rfl kt) ?_
  have Oh := K.old O0 all0
  obtain ⟨T, L2, X, e0, K, st⟩ := (cs10 hw).pure X hx hZ hown e0 K (A := [(.ref xa)]) ⟨rfl, _, _, rfl, E_xa⟩ (rEmL_1 l Z a0 hw [] xa xb xk xc0 h0 Oh F_value_xa V_xb) (fun _ _ _ q => q) (W := 0) (by decide) hml (Ls := #[rv xa, uu, uu, uu]) rfl (rest := []) rfl rfl hby d4_1
  refine oWk.st (fun _ kt => st _ (zF X hx hby d4_4 rfl rfl ((if0 _ _).trans (teq (by decide)).1) (pc' := 9) rfl (zA X hx hby d4_9 rfl rfl rfl (zA X hx hby d4_10 rfl rfl rfl kt)))) ?_
  obtain ⟨T, L4, X, e0, K, st⟩ := (cs16 hw).pure X hx hZ hown e0 K (A := [(.ref xa)]) ⟨rfl, _, _, rfl, E_xa⟩ (rLn_1 l Z a0 hw [] xa xb xk xz xc0 h0 Oh S_COMPACT_STRINGS hz E_xa F_coder_xa F_value_xa V_xb) (fun _ _ _ q => q) (W := 1) (by decide) hml (Ls := #[rv xa, uu, uu, uu]) rfl (rest := [(.ref xa)]) rfl rfl hby d4_11
  refine oWk.st (fun _ kt => st _ (zK X hx hby d4_14 rfl (XS.isub X.here hx rfl (hb hby d4_15) rfl kt))) ?_
  obtain ⟨T, L6, X, e0, K, st⟩ := (cs17 hw).pure X hx hZ hown e0 K (A := [(.ref xa), (.int (0 : Int32))]) ⟨rfl, _, _, rfl, E_xa⟩ (rCA_1_0 l Z a0 hw [] xa xb xk xfm xz xc0 h0 Oh S_COMPACT_STRINGS hz S_SIOOBE_FORMATTER hcat hr0 E_xa F_coder_xa F_value_xa V_xb) (fun _ _ _ q => q) (W := 0) (by decide) hml (Ls := #[rv xa, uu, uu, uu]) rfl (rest := []) rfl rfl hby d4_16
  refine oWk.to (mkF m 23 #[rv xa, iv xc0, uu, uu] [(.int xc0), (.int 46)]) (fun _ kt => st _ (zSn X hx hby d4_19 rfl rfl (l' := #[rv xa, iv xc0, uu, uu]) rfl (zL X hx hby d4_20 rfl (zI X hx hby d4_22 rfl rfl kt)))) ?_
  by_cases hq46 : (46 : Int32) = xc0
  · refine oWk.to (mkF m 32 #[rv xa, iv xc0, uu, uu] []) (fun _ kt => zY X hx hby d4_23 rfl rfl (teq hq46).1 (pc' := 32) rfl kt) ?_
    refine oWk.to (mkF m 33 #[rv xa, iv xc0, uu, uu] [(.int 0)]) (fun _ kt => zK X hx hby d4_32 rfl kt) ?_
    exact oRetZ X hx hlk hret (hb hby d4_33) (Or.inl rfl) (by rw [e0]; exact ⟨(by rw [oBi_f (fun q => q.1 hq46.symm)]), rfl, K⟩) (by decide) (by decide)
  · refine oWk.to (mkF m 26 #[rv xa, iv xc0, uu, uu] []) (fun _ kt => zN X hx hby d4_23 rfl rfl (feq hq46).1 kt) ?_
    refine oWk.to (mkF m 29 #[rv xa, iv xc0, uu, uu] [(.int xc0), (.int 32)]) (fun _ kt => zL X hx hby d4_26 rfl (zI X hx hby d4_28 rfl rfl kt)) ?_
    by_cases hq32 : (32 : Int32) = xc0
    · refine oWk.to (mkF m 32 #[rv xa, iv xc0, uu, uu] []) (fun _ kt => zN X hx hby d4_29 rfl rfl (teq hq32).2 kt) ?_
      refine oWk.to (mkF m 33 #[rv xa, iv xc0, uu, uu] [(.int 0)]) (fun _ kt => zK X hx hby d4_32 rfl kt) ?_
      exact oRetZ X hx hlk hret (hb hby d4_33) (Or.inl rfl) (by rw [e0]; exact ⟨(by rw [oBi_f (fun q => q.2.1 hq32.symm)]), rfl, K⟩) (by decide) (by decide)
    · refine oWk.to (mkF m 34 #[rv xa, iv xc0, uu, uu] []) (fun _ kt => zY X hx hby d4_29 rfl rfl (feq hq32).2 (pc' := 34) rfl kt) ?_
      refine oWk.st (fun _ kt => zK X hx hby d4_34 rfl (zSn X hx hby d4_35 rfl rfl (l' := #[rv xa, iv xc0, iv 0, uu]) rfl (zI X hx hby d4_36 rfl rfl (zA X hx hby d4_37 rfl rfl rfl kt)))) ?_
      obtain ⟨T, L8, X, e0, K, st⟩ := (cs16 hw).pure X hx hZ hown e0 K (A := [(.ref xa)]) ⟨rfl, _, _, rfl, E_xa⟩ (rLn_1 l Z a0 hw [] xa xb xk xz xc0 h0 Oh S_COMPACT_STRINGS hz E_xa F_coder_xa F_value_xa V_xb) (fun _ _ _ q => q) (W := 1) (by decide) hml (Ls := #[rv xa, iv xc0, iv 0, uu]) rfl (rest := [(.int (0 : Int32))]) rfl rfl hby d4_38
      refine oWk.st (fun _ kt => st _ (zN X hx hby d4_41 rfl rfl (tlt (by decide)).2.1 (zA X hx hby d4_44 rfl rfl rfl (zI X hx hby d4_45 rfl rfl kt)))) ?_
      obtain ⟨T, L10, X, e0, K, st⟩ := (cs17 hw).pure X hx hZ hown e0 K (A := [(.ref xa), (.int (0 : Int32))]) ⟨rfl, _, _, rfl, E_xa⟩ (rCA_1_0 l Z a0 hw [] xa xb xk xfm xz xc0 h0 Oh S_COMPACT_STRINGS hz S_SIOOBE_FORMATTER hcat hr0 E_xa F_coder_xa F_value_xa V_xb) (fun _ _ _ q => q) (W := 0) (by decide) hml (Ls := #[rv xa, iv xc0, iv 0, uu]) rfl (rest := []) rfl rfl hby d4_46
      refine oWk.to (mkF m 53 #[rv xa, iv xc0, iv 0, iv xc0] [(.int xc0), (.int 47)]) (fun _ kt => st _ (zSn X hx hby d4_49 rfl rfl (l' := #[rv xa, iv xc0, iv 0, iv xc0]) rfl (zL X hx hby d4_50 rfl (zI X hx hby d4_52 rfl rfl kt)))) ?_
      by_cases h47_0 : (47 : Int32) = xc0
      · refine oWk.to (mkF m 75 #[rv xa, iv xc0, iv 0, iv xc0] []) (fun _ kt => zY X hx hby d4_53 rfl rfl (teq h47_0).1 (pc' := 75) rfl kt) ?_
        refine oWk.to (mkF m 76 #[rv xa, iv xc0, iv 0, iv xc0] [(.int 0)]) (fun _ kt => zK X hx hby d4_75 rfl kt) ?_
        exact oRetZ X hx hlk hret (hb hby d4_76) (Or.inl rfl) (by rw [e0]; exact ⟨(by rw [oBi_f (fun q => q.2.2.1 h47_0.symm)]), rfl, K⟩) (by decide) (by decide)
      · refine oWk.to (mkF m 56 #[rv xa, iv xc0, iv 0, iv xc0] []) (fun _ kt => zN X hx hby d4_53 rfl rfl (feq h47_0).1 kt) ?_
        refine oWk.to (mkF m 59 #[rv xa, iv xc0, iv 0, iv xc0] [(.int xc0), (.int 92)]) (fun _ kt => zL X hx hby d4_56 rfl (zI X hx hby d4_58 rfl rfl kt)) ?_
        by_cases h92_0 : (92 : Int32) = xc0
        · refine oWk.to (mkF m 75 #[rv xa, iv xc0, iv 0, iv xc0] []) (fun _ kt => zY X hx hby d4_59 rfl rfl (teq h92_0).1 (pc' := 75) rfl kt) ?_
          refine oWk.to (mkF m 76 #[rv xa, iv xc0, iv 0, iv xc0] [(.int 0)]) (fun _ kt => zK X hx hby d4_75 rfl kt) ?_
          exact oRetZ X hx hlk hret (hb hby d4_76) (Or.inl rfl) (by rw [e0]; exact ⟨(by rw [oBi_f (fun q => q.2.2.2.1 h92_0.symm)]), rfl, K⟩) (by decide) (by decide)
        · refine oWk.to (mkF m 62 #[rv xa, iv xc0, iv 0, iv xc0] []) (fun _ kt => zN X hx hby d4_59 rfl rfl (feq h92_0).1 kt) ?_
          refine oWk.to (mkF m 65 #[rv xa, iv xc0, iv 0, iv xc0] [(.int xc0), (.int 58)]) (fun _ kt => zL X hx hby d4_62 rfl (zI X hx hby d4_64 rfl rfl kt)) ?_
          by_cases h58_0 : (58 : Int32) = xc0
          · refine oWk.to (mkF m 75 #[rv xa, iv xc0, iv 0, iv xc0] []) (fun _ kt => zY X hx hby d4_65 rfl rfl (teq h58_0).1 (pc' := 75) rfl kt) ?_
            refine oWk.to (mkF m 76 #[rv xa, iv xc0, iv 0, iv xc0] [(.int 0)]) (fun _ kt => zK X hx hby d4_75 rfl kt) ?_
            exact oRetZ X hx hlk hret (hb hby d4_76) (Or.inl rfl) (by rw [e0]; exact ⟨(by rw [oBi_f (fun q => q.2.2.2.2.1 h58_0.symm)]), rfl, K⟩) (by decide) (by decide)
          · refine oWk.to (mkF m 68 #[rv xa, iv xc0, iv 0, iv xc0] []) (fun _ kt => zN X hx hby d4_65 rfl rfl (feq h58_0).1 kt) ?_
            refine oWk.st (fun _ kt => zI X hx hby d4_68 rfl rfl kt) ?_
            obtain ⟨T, L12, X, e0, K, st⟩ := (cs18 hw).pure X hx hZ hown e0 K (A := [(.int xc0)]) rfl (rIso l Z a0 hw [] xc0 h0 Oh (oR8 hr0)) (fun _ _ _ q => q) (W := 0) (by decide) hml (Ls := #[rv xa, iv xc0, iv 0, iv xc0]) rfl (rest := []) rfl rfl hby d4_69
            refine oWk.to (mkF m 72 #[rv xa, iv xc0, iv 0, iv xc0] [(.int (oBi (oIso xc0)))]) (fun _ kt => st _ kt) ?_
            by_cases hio_0 : oIso xc0
            · refine oWk.to (mkF m 75 #[rv xa, iv xc0, iv 0, iv xc0] []) (fun _ kt => zH X hx hby d4_72 rfl rfl ((if0 _ _).trans (feq (oBi_ne hio_0)).1) kt) ?_
              refine oWk.to (mkF m 76 #[rv xa, iv xc0, iv 0, iv xc0] [(.int 0)]) (fun _ kt => zK X hx hby d4_75 rfl kt) ?_
              exact oRetZ X hx hlk hret (hb hby d4_76) (Or.inl rfl) (by rw [e0]; exact ⟨(by rw [oBi_f (fun q => q.2.2.2.2.2 hio_0)]), rfl, K⟩) (by decide) (by decide)
            · refine oWk.to (mkF m 77 #[rv xa, iv xc0, iv 0, iv xc0] []) (fun _ kt => zF X hx hby d4_72 rfl rfl ((if0 _ _).trans (teq (oBi_f hio_0)).1) (pc' := 77) rfl kt) ?_
              refine oWk.st (fun _ kt => zC X hx hby d4_77 rfl rfl (l' := #[rv xa, iv xc0, iv ((0 : Int32) + (1 : Int32)), iv xc0]) rfl (zG X hx hby d4_80 rfl (pc' := 36) rfl (zI X hx hby d4_36 rfl rfl (zA X hx hby d4_37 rfl rfl rfl kt)))) ?_
              obtain ⟨T, L14, X, e0, K, st⟩ := (cs16 hw).pure X hx hZ hown e0 K (A := [(.ref xa)]) ⟨rfl, _, _, rfl, E_xa⟩ (rLn_1 l Z a0 hw [] xa xb xk xz xc0 h0 Oh S_COMPACT_STRINGS hz E_xa F_coder_xa F_value_xa V_xb) (fun _ _ _ q => q) (W := 1) (by decide) hml (Ls := #[rv xa, iv xc0, iv 1, iv xc0]) rfl (rest := [(.int (1 : Int32))]) rfl rfl hby d4_38
              refine oWk.to (mkF m 84 #[rv xa, iv xc0, iv 1, iv xc0] [(.int 1)]) (fun _ kt => st _ (zY X hx hby d4_41 rfl rfl (flt (by decide)).2.1 (pc' := 83) rfl (zK X hx hby d4_83 rfl kt))) ?_
              exact oRetZ X hx hlk hret (hb hby d4_84) (Or.inr rfl) (by rw [e0]; exact ⟨(by rw [oBi_t ⟨fun q => hq46 q.symm, fun q => hq32 q.symm, ⟨fun q => h47_0 q.symm, fun q => h92_0 q.symm, fun q => h58_0 q.symm, hio_0⟩⟩]), rfl, K⟩) (by decide) (by decide)
def Q_rEmU_1 (Z : State) (xa xb : Addr) (xk : ClassId) (xc0 : Int32) (h0 : Heap) (v : Option Value) (h : Heap) (L : List Loc) : Prop := v = some (.int (0 : Int32)) ∧ h = h0 ∧ oKp h0 h [] L
theorem rEmU_1 (l : Launch) (Z : State) (a0 : Array Value) (hw : oHW a0 Z) (ws : List Jvm.Cond) (xa xb : Addr) (xk : ClassId) (xc0 : Int32) (h0 : Heap) (O0 : Ext Z.heap h0) (F_value_xa : Fld Z h0 xa Y0 "value" "[B" (.ref xb)) (V_xb : Arv Z h0 xb xk .byte (2 : Int32) [(iu0 xc0), (iu8 xc0)] (.int (0 : Int32))) :
    oCon l Z yy13 jdk_42_method_55_code 1 (some .boolean) ws ({ frames := 0, cells := 0, slots := 0, locals := 0 } : Room) #[(.ref xa)] h0 (Q_rEmU_1 Z xa xb xk xc0 h0) := by
  refine oCon.of (plainFor_of_name pn_2) ?_
  intro p e s m below meth c T X hx hby hml hown hnm hret hlk hZ e0
  have hml : c.maxLocals = 1 := hml
  have K : oKp h0 h0 [] [] := oKp.nil _ _
  refine oWk.cast (g' := (mkF m 0 #[rv xa] [])) (by first | rfl | (simp [entryFrame, mkF, argsToLocals, Value.category]; done)) ?_
  refine oWk.st (fun _ kt => zA X hx hby d5_0 rfl rfl rfl kt) ?_
  obtain ⟨T, X, e0, st⟩ := getF X hx hZ hown (host := "") (Or.inl (oW hw 22 rfl)) Via.refl e0 F_value_xa (g := (mkF m 1 #[rv xa] [(.ref xa)])) rfl rfl (hb hby d5_1)
  refine oWk.to (mkF m 13 #[rv xa] [(.int 0)]) (fun _ kt => st _ (oAl X hx hZ e0 V_xb hby d5_4 rfl rfl (zF X hx hby d5_5 rfl rfl ((if0 _ _).trans (feq (by decide)).2) (pc' := 12) rfl (zK X hx hby d5_12 rfl kt)))) ?_
  exact oRetZ X hx hlk hret (hb hby d5_13) (Or.inl rfl) (by rw [e0]; exact ⟨rfl, rfl, K⟩) (by decide) (by decide)
def Q_rCdr1 (Z : State) (xa : Addr) (xz : Int32) (h0 : Heap) (v : Option Value) (h : Heap) (L : List Loc) : Prop := v = some (.int (1 : Int32)) ∧ h = h0 ∧ oKp h0 h [] L
theorem rCdr1 (l : Launch) (Z : State) (a0 : Array Value) (hw : oHW a0 Z) (ws : List Jvm.Cond) (xa : Addr) (xz : Int32) (h0 : Heap) (O0 : Ext Z.heap h0) (S_COMPACT_STRINGS : Sta Z Z.heap Y0 Y6 "Z" (.int xz)) (hz : ¬ xz = (0 : Int32)) (F_coder_xa : Fld Z h0 xa Y0 "coder" "B" (.int (1 : Int32))) :
    oCon l Z yy15 jdk_42_method_152_code 1 (some .byte) ws ({ frames := 0, cells := 0, slots := 0, locals := 0 } : Room) #[(.ref xa)] h0 (Q_rCdr1 Z xa xz h0) := by
  refine oCon.of (plainFor_of_name pn_2) ?_
  intro p e s m below meth c T X hx hby hml hown hnm hret hlk hZ e0
  have hml : c.maxLocals = 1 := hml
  have K : oKp h0 h0 [] [] := oKp.nil _ _
  refine oWk.cast (g' := (mkF m 0 #[rv xa] [])) (by first | rfl | (simp [entryFrame, mkF, argsToLocals, Value.category]; done)) ?_
  have Oh := K.old O0 all0
  obtain ⟨T, X, e0, st⟩ := getS2 X hx hZ hown (host := "") (Or.inl (oW hw 37 rfl)) Via.refl e0 (S_COMPACT_STRINGS.ext Oh) (g := (mkF m 0 #[rv xa] [])) rfl (hb hby d11_0)
  refine oWk.st (fun _ kt => st _ (zH X hx hby d11_3 rfl rfl ((if0 _ _).trans (feq hz).1) (zA X hx hby d11_6 rfl rfl rfl kt))) ?_
  obtain ⟨T, X, e0, st⟩ := getF X hx hZ hown (host := "") (Or.inl (oW hw 23 rfl)) Via.refl e0 F_coder_xa (g := (mkF m 7 #[rv xa] [(.ref xa)])) rfl rfl (hb hby d11_7)
  refine oWk.to (mkF m 14 #[rv xa] [(.int 1)]) (fun _ kt => st _ (zG X hx hby d11_10 rfl (pc' := 14) rfl kt)) ?_
  exact oRetN X hx hlk hret (Or.inl rfl) rfl (hb hby d11_14) (by rw [e0]; exact ⟨rfl, rfl, K⟩) (by decide) (by decide)
def Q_rLnU_1 (Z : State) (xa xb : Addr) (xk : ClassId) (xz xc0 : Int32) (h0 : Heap) (v : Option Value) (h : Heap) (L : List Loc) : Prop := v = some (.int (1 : Int32)) ∧ h = h0 ∧ oKp h0 h [] L
theorem rLnU_1 (l : Launch) (Z : State) (a0 : Array Value) (hw : oHW a0 Z) (ws : List Jvm.Cond) (xa xb : Addr) (xk : ClassId) (xz xc0 : Int32) (h0 : Heap) (O0 : Ext Z.heap h0) (S_COMPACT_STRINGS : Sta Z Z.heap Y0 Y6 "Z" (.int xz)) (hz : ¬ xz = (0 : Int32)) (E_xa : Exa Z h0 xa Y0) (F_coder_xa : Fld Z h0 xa Y0 "coder" "B" (.int (1 : Int32))) (F_value_xa : Fld Z h0 xa Y0 "value" "[B" (.ref xb)) (V_xb : Arv Z h0 xb xk .byte (2 : Int32) [(iu0 xc0), (iu8 xc0)] (.int (0 : Int32))) :
    oCon l Z yy16 jdk_42_method_54_code 1 (some .int) ws ({ frames := 1, cells := 0, slots := 0, locals := 13 } : Room) #[(.ref xa)] h0 (Q_rLnU_1 Z xa xb xk xz xc0 h0) := by
  refine oCon.of (plainFor_of_name pn_2) ?_
  intro p e s m below meth c T X hx hby hml hown hnm hret hlk hZ e0
  have hml : c.maxLocals = 1 := hml
  have K : oKp h0 h0 [] [] := oKp.nil _ _
  refine oWk.cast (g' := (mkF m 0 #[rv xa] [])) (by first | rfl | (simp [entryFrame, mkF, argsToLocals, Value.category]; done)) ?_
  refine oWk.st (fun _ kt => zA X hx hby d10_0 rfl rfl rfl kt) ?_
  obtain ⟨T, X, e0, st⟩ := getF X hx hZ hown (host := "") (Or.inl (oW hw 22 rfl)) Via.refl e0 F_value_xa (g := (mkF m 1 #[rv xa] [(.ref xa)])) rfl rfl (hb hby d10_1)
  refine oWk.st (fun _ kt => st _ (oAl X hx hZ e0 V_xb hby d10_4 rfl rfl (zA X hx hby d10_5 rfl rfl rfl kt))) ?_
  have Oh := K.old O0 all0
  obtain ⟨T, L3, X, e0, K, st⟩ := (cs11 hw).pure X hx hZ hown e0 K (A := [(.ref xa)]) ⟨rfl, _, _, rfl, E_xa⟩ (rCdr1 l Z a0 hw [] xa xz h0 Oh S_COMPACT_STRINGS hz F_coder_xa) (fun _ _ _ q => q) (W := 1) (by decide) hml (Ls := #[rv xa]) rfl (rest := [(.int (2 : Int32))]) rfl rfl hby d10_6
  refine oWk.to (mkF m 10 #[rv xa] [(.int 1)]) (fun _ kt => st _ (XS.ishr X.here hx rfl (hb hby d10_9) rfl kt)) ?_
  exact oRetI X hx hlk hret (hb hby d10_10) (by rw [e0]; exact ⟨rfl, rfl, K⟩) (by decide) (by decide)
def Q_rIsL1 (Z : State) (xa : Addr) (xz : Int32) (h0 : Heap) (v : Option Value) (h : Heap) (L : List Loc) : Prop := v = some (.int (0 : Int32)) ∧ h = h0 ∧ oKp h0 h [] L
theorem d13_17 : decode jdk_42_method_154_code 17 = .ok (.iconst 0, 1) := by decide +kernel
theorem rIsL1 (l : Launch) (Z : State) (a0 : Array Value) (hw : oHW a0 Z) (ws : List Jvm.Cond) (xa : Addr) (xz : Int32) (h0 : Heap) (O0 : Ext Z.heap h0) (S_COMPACT_STRINGS : Sta Z Z.heap Y0 Y6 "Z" (.int xz)) (hz : ¬ xz = (0 : Int32)) (F_coder_xa : Fld Z h0 xa Y0 "coder" "B" (.int (1 : Int32))) :
    oCon l Z yy17 jdk_42_method_154_code 1 (some .boolean) ws ({ frames := 0, cells := 0, slots := 0, locals := 0 } : Room) #[(.ref xa)] h0 (Q_rIsL1 Z xa xz h0) := by
  refine oCon.of (plainFor_of_name pn_2) ?_
  intro p e s m below meth c T X hx hby hml hown hnm hret hlk hZ e0
  have hml : c.maxLocals = 1 := hml
  have K : oKp h0 h0 [] [] := oKp.nil _ _
  refine oWk.cast (g' := (mkF m 0 #[rv xa] [])) (by first | rfl | (simp [entryFrame, mkF, argsToLocals, Value.category]; done)) ?_
  have Oh := K.old O0 all0
  obtain ⟨T, X, e0, st⟩ := getS2 X hx hZ hown (host := "") (Or.inl (oW hw 37 rfl)) Via.refl e0 (S_COMPACT_STRINGS.ext Oh) (g := (mkF m 0 #[rv xa] [])) rfl (hb hby d13_0)
  refine oWk.st (fun _ kt => st _ (zH X hx hby d13_3 rfl rfl ((if0 _ _).trans (feq hz).1) (zA X hx hby d13_6 rfl rfl rfl kt))) ?_
  obtain ⟨T, X, e0, st⟩ := getF X hx hZ hown (host := "") (Or.inl (oW hw 23 rfl)) Via.refl e0 F_coder_xa (g := (mkF m 7 #[rv xa] [(.ref xa)])) rfl rfl (hb hby d13_7)
  refine oWk.to (mkF m 18 #[rv xa] [(.int 0)]) (fun _ kt => st _ (zF X hx hby d13_10 rfl rfl ((if0 _ _).trans (feq (by decide)).2) (pc' := 17) rfl (zK X hx hby d13_17 rfl kt))) ?_
  exact oRetZ X hx hlk hret (hb hby d13_18) (Or.inl rfl) (by rw [e0]; exact ⟨rfl, rfl, K⟩) (by decide) (by decide)
def Q_rUL_1 (Z : State) (xb : Addr) (xk : ClassId) (xc0 : Int32) (h0 : Heap) (v : Option Value) (h : Heap) (L : List Loc) : Prop := v = some (.int (1 : Int32)) ∧ h = h0 ∧ oKp h0 h [] L
abbrev yy22 : MethodName := ⟨"java/lang/StringUTF16", "length", "([B)I"⟩
theorem d26_0 : decode jdk_52_method_6_code 0 = .ok (.aload_n 0, 1) := by decide +kernel
theorem d26_1 : decode jdk_52_method_6_code 1 = .ok (.arraylength, 1) := by decide +kernel
theorem d26_2 : decode jdk_52_method_6_code 2 = .ok (.iconst 1, 1) := by decide +kernel
theorem d26_3 : decode jdk_52_method_6_code 3 = .ok (.ishr, 1) := by decide +kernel
theorem d26_4 : decode jdk_52_method_6_code 4 = .ok (.ireturn, 1) := by decide +kernel
theorem rUL_1 (l : Launch) (Z : State) (a0 : Array Value) (hw : oHW a0 Z) (ws : List Jvm.Cond) (xb : Addr) (xk : ClassId) (xc0 : Int32) (h0 : Heap) (O0 : Ext Z.heap h0) (V_xb : Arv Z h0 xb xk .byte (2 : Int32) [(iu0 xc0), (iu8 xc0)] (.int (0 : Int32))) :
    oCon l Z yy22 jdk_52_method_6_code 1 (some .int) ws ({ frames := 0, cells := 0, slots := 0, locals := 0 } : Room) #[(.ref xb)] h0 (Q_rUL_1 Z xb xk xc0 h0) := by
  refine oCon.of (plainFor_of_name pn_3) ?_
  intro p e s m below meth c T X hx hby hml hown hnm hret hlk hZ e0
  have hml : c.maxLocals = 1 := hml
  have K : oKp h0 h0 [] [] := oKp.nil _ _
  refine oWk.cast (g' := (mkF m 0 #[rv xb] [])) (by first | rfl | (simp [entryFrame, mkF, argsToLocals, Value.category]; done)) ?_
  refine oWk.to (mkF m 4 #[rv xb] [(.int 1)]) (fun _ kt => zA X hx hby d26_0 rfl rfl rfl (oAl X hx hZ e0 V_xb hby d26_1 rfl rfl (zK X hx hby d26_2 rfl (XS.ishr X.here hx rfl (hb hby d26_3) rfl kt)))) ?_
  exact oRetI X hx hlk hret (hb hby d26_4) (by rw [e0]; exact ⟨rfl, rfl, K⟩) (by decide) (by decide)
def Q_rUCk_1_0 (Z : State) (xb : Addr) (xk : ClassId) (xfm : Value) (xc0 : Int32) (h0 : Heap) (v : Option Value) (h : Heap) (L : List Loc) : Prop := v = none ∧ h = h0 ∧ oKp h0 h [] L
abbrev yy23 : MethodName := ⟨"java/lang/StringUTF16", "checkIndex", "(I[B)V"⟩
theorem d25_0 : decode jdk_52_method_91_code 0 = .ok (.iload_n 0, 1) := by decide +kernel
theorem d25_1 : decode jdk_52_method_91_code 1 = .ok (.aload_n 1, 1) := by decide +kernel
theorem d25_2 : decode jdk_52_method_91_code 2 = .ok (.invokestatic 48, 3) := by decide +kernel
theorem pd_16 : parseMethodDescriptor "([B)I" = some ⟨[(.array .byte)], some .int⟩ := by decide +kernel
theorem cs19 {a0 : Array Value} {Z : State} (hw : oHW a0 Z) : oCall Z Y1 (.invokestatic 48) yy22 jdk_52_method_6_code 1 (some .int) (oRs 1) := oCall.stat (oW hw 112 rfl) (oW hw 113 rfl) (oW hw 40 rfl) (oW hw 114 rfl) (by decide) pd_16
theorem d25_5 : decode jdk_52_method_91_code 5 = .ok (.invokestatic 414, 3) := by decide +kernel
theorem cs20 {a0 : Array Value} {Z : State} (hw : oHW a0 Z) : oCall Z Y1 (.invokestatic 414) yy19 jdk_42_method_155_code 2 none (oRs 2) := oCall.stat (oW hw 115 rfl) (oW hw 73 rfl) (oW hw 5 rfl) (oW hw 74 rfl) (by decide) pd_12
theorem d25_8 : decode jdk_52_method_91_code 8 = .ok (.return_, 1) := by decide +kernel
theorem rUCk_1_0 (l : Launch) (Z : State) (a0 : Array Value) (hw : oHW a0 Z) (ws : List Jvm.Cond) (xb : Addr) (xk : ClassId) (xfm : Value) (xc0 : Int32) (h0 : Heap) (O0 : Ext Z.heap h0) (S_SIOOBE_FORMATTER : Sta Z Z.heap Y2 Y4 Y5 xfm) (hcat : xfm.category = 1) (V_xb : Arv Z h0 xb xk .byte (2 : Int32) [(iu0 xc0), (iu8 xc0)] (.int (0 : Int32))) :
    oCon l Z yy23 jdk_52_method_91_code 2 none ws ({ frames := 2, cells := 0, slots := 0, locals := 27 } : Room) #[(.int (0 : Int32)), (.ref xb)] h0 (Q_rUCk_1_0 Z xb xk xfm xc0 h0) := by
  refine oCon.of (plainFor_of_name pn_3) ?_
  intro p e s m below meth c T X hx hby hml hown hnm hret hlk hZ e0
  have hml : c.maxLocals = 2 := hml
  have K : oKp h0 h0 [] [] := oKp.nil _ _
  refine oWk.cast (g' := (mkF m 0 #[iv 0, rv xb] [])) (by first | rfl | (simp [entryFrame, mkF, argsToLocals, Value.category]; done)) ?_
  refine oWk.st (fun _ kt => zI X hx hby d25_0 rfl rfl (zA X hx hby d25_1 rfl rfl rfl kt)) ?_
  have Oh := K.old O0 all0
  obtain ⟨T, L2, X, e0, K, st⟩ := (cs19 hw).pure X hx hZ hown e0 K (A := [(.ref xb)]) rfl (rUL_1 l Z a0 hw [] xb xk xc0 h0 Oh V_xb) (fun _ _ _ q => q) (W := 1) (by decide) hml (Ls := #[iv 0, rv xb]) rfl (rest := [(.int (0 : Int32))]) rfl rfl hby d25_2
  refine oWk.st (fun _ kt => st _ kt) ?_
  obtain ⟨T, L4, X, e0, K, st⟩ := (cs20 hw).pure X hx hZ hown e0 K (A := [(.int (0 : Int32)), (.int (1 : Int32))]) rfl (rCkI l Z a0 hw [] (0 : Int32) (1 : Int32) xfm h0 Oh S_SIOOBE_FORMATTER hcat (by decide) (by decide)) (fun _ _ _ q => q) (W := 0) (by decide) hml (Ls := #[iv 0, rv xb]) rfl (rest := []) rfl rfl hby d25_5
  refine oWk.to (mkF m 8 #[iv 0, rv xb] []) (fun _ kt => st _ kt) ?_
  exact oRetV X hx hlk hret (hb hby d25_8) (by rw [e0]; exact ⟨rfl, rfl, K⟩) (by decide) (by decide)
def Q_rUC_1_0 (Z : State) (xb : Addr) (xk : ClassId) (xfm : Value) (xc0 : Int32) (h0 : Heap) (v : Option Value) (h : Heap) (L : List Loc) : Prop := v = some (.int xc0) ∧ h = h0 ∧ oKp h0 h [] L
abbrev yy24 : MethodName := ⟨"java/lang/StringUTF16", "charAt", "([BI)C"⟩
theorem d24_0 : decode jdk_52_method_83_code 0 = .ok (.iload_n 1, 1) := by decide +kernel
theorem d24_1 : decode jdk_52_method_83_code 1 = .ok (.aload_n 0, 1) := by decide +kernel
theorem d24_2 : decode jdk_52_method_83_code 2 = .ok (.invokestatic 67, 3) := by decide +kernel
theorem pd_17 : parseMethodDescriptor "(I[B)V" = some ⟨[.int, (.array .byte)], none⟩ := by decide +kernel
theorem cs21 {a0 : Array Value} {Z : State} (hw : oHW a0 Z) : oCall Z Y1 (.invokestatic 67) yy23 jdk_52_method_91_code 2 none (oRs 2) := oCall.stat (oW hw 109 rfl) (oW hw 110 rfl) (oW hw 40 rfl) (oW hw 111 rfl) (by decide) pd_17
theorem d24_5 : decode jdk_52_method_83_code 5 = .ok (.aload_n 0, 1) := by decide +kernel
theorem d24_6 : decode jdk_52_method_83_code 6 = .ok (.iload_n 1, 1) := by decide +kernel
theorem d24_7 : decode jdk_52_method_83_code 7 = .ok (.invokestatic 71, 3) := by decide +kernel
theorem d24_10 : decode jdk_52_method_83_code 10 = .ok (.ireturn, 1) := by decide +kernel
theorem rUC_1_0 (l : Launch) (Z : State) (a0 : Array Value) (hw : oHW a0 Z) (ws : List Jvm.Cond) (xb : Addr) (xk : ClassId) (xfm : Value) (xc0 : Int32) (h0 : Heap) (O0 : Ext Z.heap h0) (S__assertionsDisabled : Sta Z Z.heap Y1 Y3 "Z" (.int (1 : Int32))) (S_HI_BYTE_SHIFT : Sta Z Z.heap Y1 "HI_BYTE_SHIFT" "I" (.int (0 : Int32))) (S_LO_BYTE_SHIFT : Sta Z Z.heap Y1 "LO_BYTE_SHIFT" "I" (.int (8 : Int32))) (S_SIOOBE_FORMATTER : Sta Z Z.heap Y2 Y4 Y5 xfm) (hcat : xfm.category = 1) (hr : 0 ≤ xc0.toInt ∧ xc0.toInt < 65536) (V_xb : Arv Z h0 xb xk .byte (2 : Int32) [(iu0 xc0), (iu8 xc0)] (.int (0 : Int32))) :
    oCon l Z yy24 jdk_52_method_83_code 2 (some .char) ws ({ frames := 3, cells := 0, slots := 0, locals := 40 } : Room) #[(.ref xb), (.int (0 : Int32))] h0 (Q_rUC_1_0 Z xb xk xfm xc0 h0) := by
  refine oCon.of (plainFor_of_name pn_3) ?_
  intro p e s m below meth c T X hx hby hml hown hnm hret hlk hZ e0
  have hml : c.maxLocals = 2 := hml
  have K : oKp h0 h0 [] [] := oKp.nil _ _
  refine oWk.cast (g' := (mkF m 0 #[rv xb, iv 0] [])) (by first | rfl | (simp [entryFrame, mkF, argsToLocals, Value.category]; done)) ?_
  refine oWk.st (fun _ kt => zI X hx hby d24_0 rfl rfl (zA X hx hby d24_1 rfl rfl rfl kt)) ?_
  have Oh := K.old O0 all0
  obtain ⟨T, L2, X, e0, K, st⟩ := (cs21 hw).pure X hx hZ hown e0 K (A := [(.int (0 : Int32)), (.ref xb)]) rfl (rUCk_1_0 l Z a0 hw [] xb xk xfm xc0 h0 Oh S_SIOOBE_FORMATTER hcat V_xb) (fun _ _ _ q => q) (W := 0) (by decide) hml (Ls := #[rv xb, iv 0]) rfl (rest := []) rfl rfl hby d24_2
  refine oWk.st (fun _ kt => st _ (zA X hx hby d24_5 rfl rfl rfl (zI X hx hby d24_6 rfl rfl kt))) ?_
  obtain ⟨T, L4, X, e0, K, st⟩ := (cs9 hw).pure X hx hZ hown e0 K (A := [(.ref xb), (.int (0 : Int32))]) rfl (rGC_1_0 l Z a0 hw [] xb xk xc0 h0 Oh S__assertionsDisabled S_HI_BYTE_SHIFT S_LO_BYTE_SHIFT hr V_xb) (fun _ _ _ q => q) (W := 0) (by decide) hml (Ls := #[rv xb, iv 0]) rfl (rest := []) rfl rfl hby d24_7
  refine oWk.to (mkF m 10 #[rv xb, iv 0] [(.int xc0)]) (fun _ kt => st _ kt) ?_
  exact oRetN X hx hlk hret (Or.inr (Or.inl rfl)) (show narrow .char (.int xc0) = .int xc0 from congrArg Value.int (oChrU hr)) (hb hby d24_10) (by rw [e0]; exact ⟨rfl, rfl, K⟩) (by decide) (by decide)
def Q_rCAU_1_0 (Z : State) (xa xb : Addr) (xk : ClassId) (xfm : Value) (xz xc0 : Int32) (h0 : Heap) (v : Option Value) (h : Heap) (L : List Loc) : Prop := v = some (.int xc0) ∧ h = h0 ∧ oKp h0 h [] L
theorem d12_16 : decode jdk_42_method_56_code 16 = .ok (.aload_n 0, 1) := by decide +kernel
theorem d12_17 : decode jdk_42_method_56_code 17 = .ok (.getfield 9, 3) := by decide +kernel
theorem d12_20 : decode jdk_42_method_56_code 20 = .ok (.iload_n 1, 1) := by decide +kernel
theorem d12_21 : decode jdk_42_method_56_code 21 = .ok (.invokestatic 498, 3) := by decide +kernel
theorem cs22 {a0 : Array Value} {Z : State} (hw : oHW a0 Z) : oCall Z Y0 (.invokestatic 498) yy24 jdk_52_method_83_code 2 (some .char) (oRs 2) := oCall.stat (oW hw 106 rfl) (oW hw 107 rfl) (oW hw 40 rfl) (oW hw 108 rfl) (by decide) pd_8
theorem d12_24 : decode jdk_42_method_56_code 24 = .ok (.ireturn, 1) := by decide +kernel
theorem rCAU_1_0 (l : Launch) (Z : State) (a0 : Array Value) (hw : oHW a0 Z) (ws : List Jvm.Cond) (xa xb : Addr) (xk : ClassId) (xfm : Value) (xz xc0 : Int32) (h0 : Heap) (O0 : Ext Z.heap h0) (S_COMPACT_STRINGS : Sta Z Z.heap Y0 Y6 "Z" (.int xz)) (hz : ¬ xz = (0 : Int32)) (S__assertionsDisabled : Sta Z Z.heap Y1 Y3 "Z" (.int (1 : Int32))) (S_HI_BYTE_SHIFT : Sta Z Z.heap Y1 "HI_BYTE_SHIFT" "I" (.int (0 : Int32))) (S_LO_BYTE_SHIFT : Sta Z Z.heap Y1 "LO_BYTE_SHIFT" "I" (.int (8 : Int32))) (S_SIOOBE_FORMATTER : Sta Z Z.heap Y2 Y4 Y5 xfm) (hcat : xfm.category = 1) (hr : 0 ≤ xc0.toInt ∧ xc0.toInt < 65536) (E_xa : Exa Z h0 xa Y0) (F_coder_xa : Fld Z h0 xa Y0 "coder" "B" (.int (1 : Int32))) (F_value_xa : Fld Z h0 xa Y0 "value" "[B" (.ref xb)) (V_xb : Arv Z h0 xb xk .byte (2 : Int32) [(iu0 xc0), (iu8 xc0)] (.int (0 : Int32))) :
    oCon l Z yy21 jdk_42_method_56_code 2 (some .char) ws ({ frames := 4, cells := 0, slots := 0, locals := 53 } : Room) #[(.ref xa), (.int (0 : Int32))] h0 (Q_rCAU_1_0 Z xa xb xk xfm xz xc0 h0) := by
  refine oCon.of (plainFor_of_name pn_2) ?_
  intro p e s m below meth c T X hx hby hml hown hnm hret hlk hZ e0
  have hml : c.maxLocals = 2 := hml
  have K : oKp h0 h0 [] [] := oKp.nil _ _
  refine oWk.cast (g' := (mkF m 0 #[rv xa, iv 0] [])) (by first | rfl | (simp [entryFrame, mkF, argsToLocals, Value.category]; done)) ?_
  refine oWk.st (fun _ kt => zA X hx hby d12_0 rfl rfl rfl kt) ?_
  have Oh := K.old O0 all0
  obtain ⟨T, L2, X, e0, K, st⟩ := (cs14 hw).pure X hx hZ hown e0 K (A := [(.ref xa)]) ⟨rfl, _, _, rfl, E_xa⟩ (rIsL1 l Z a0 hw [] xa xz h0 Oh S_COMPACT_STRINGS hz F_coder_xa) (fun _ _ _ q => q) (W := 0) (by decide) hml (Ls := #[rv xa, iv 0]) rfl (rest := []) rfl rfl hby d12_1
  refine oWk.st (fun _ kt => st _ (zF X hx hby d12_4 rfl rfl ((if0 _ _).trans (teq (by decide)).1) (pc' := 16) rfl (zA X hx hby d12_16 rfl rfl rfl kt))) ?_
  obtain ⟨T, X, e0, st⟩ := getF X hx hZ hown (host := "") (Or.inl (oW hw 22 rfl)) Via.refl e0 F_value_xa (g := (mkF m 17 #[rv xa, iv 0] [(.ref xa)])) rfl rfl (hb hby d12_17)
  refine oWk.st (fun _ kt => st _ (zI X hx hby d12_20 rfl rfl kt)) ?_
  obtain ⟨T, L4, X, e0, K, st⟩ := (cs22 hw).pure X hx hZ hown e0 K (A := [(.ref xb), (.int (0 : Int32))]) rfl (rUC_1_0 l Z a0 hw [] xb xk xfm xc0 h0 Oh S__assertionsDisabled S_HI_BYTE_SHIFT S_LO_BYTE_SHIFT S_SIOOBE_FORMATTER hcat hr V_xb) (fun _ _ _ q => q) (W := 0) (by decide) hml (Ls := #[rv xa, iv 0]) rfl (rest := []) rfl rfl hby d12_21
  refine oWk.to (mkF m 24 #[rv xa, iv 0] [(.int xc0)]) (fun _ kt => st _ kt) ?_
  exact oRetN X hx hlk hret (Or.inr (Or.inl rfl)) (show narrow .char (.int xc0) = .int xc0 from congrArg Value.int (oChrU hr)) (hb hby d12_24) (by rw [e0]; exact ⟨rfl, rfl, K⟩) (by decide) (by decide)
def Q_rSSU_1 (Z : State) (xa xb : Addr) (xk : ClassId) (xfm : Value) (xz xc0 : Int32) (h0 : Heap) (v : Option Value) (h : Heap) (L : List Loc) : Prop := v = some (.int (oBi (¬ xc0 = (46 : Int32) ∧ ¬ xc0 = (32 : Int32) ∧ oPl xc0))) ∧ h = h0 ∧ oKp h0 h [] L
theorem rSSU_1 (l : Launch) (Z : State) (a0 : Array Value) (hw : oHW a0 Z) (ws : List Jvm.Cond) (xa xb : Addr) (xk : ClassId) (xfm : Value) (xz xc0 : Int32) (h0 : Heap) (O0 : Ext Z.heap h0) (S_COMPACT_STRINGS : Sta Z Z.heap Y0 Y6 "Z" (.int xz)) (hz : ¬ xz = (0 : Int32)) (S__assertionsDisabled : Sta Z Z.heap Y1 Y3 "Z" (.int (1 : Int32))) (S_HI_BYTE_SHIFT : Sta Z Z.heap Y1 "HI_BYTE_SHIFT" "I" (.int (0 : Int32))) (S_LO_BYTE_SHIFT : Sta Z Z.heap Y1 "LO_BYTE_SHIFT" "I" (.int (8 : Int32))) (S_SIOOBE_FORMATTER : Sta Z Z.heap Y2 Y4 Y5 xfm) (hcat : xfm.category = 1) (E_xa : Exa Z h0 xa Y0) (F_coder_xa : Fld Z h0 xa Y0 "coder" "B" (.int (1 : Int32))) (F_value_xa : Fld Z h0 xa Y0 "value" "[B" (.ref xb)) (V_xb : Arv Z h0 xb xk .byte (2 : Int32) [(iu0 xc0), (iu8 xc0)] (.int (0 : Int32))) (hr0 : 0 ≤ xc0.toInt ∧ xc0.toInt < 65536) :
    oCon l Z yy14 prog_11_method_4_code 4 (some .boolean) ws ({ frames := 5, cells := 0, slots := 0, locals := 66 } : Room) #[(.ref xa)] h0 (Q_rSSU_1 Z xa xb xk xfm xz xc0 h0) := by
  refine oCon.of (plainFor_of_name pn_4) ?_
  intro p e s m below meth c T X hx hby hml hown hnm hret hlk hZ e0
  have hml : c.maxLocals = 4 := hml
  have K : oKp h0 h0 [] [] := oKp.nil _ _
  refine oWk.cast (g' := (mkF m 0 #[rv xa, uu, uu, uu] [])) (by first | rfl | (simp [entryFrame, mkF, argsToLocals, Value.category]; done)) ?_
  refine oWk.st (fun _ kt => zA X hx hby d4_0 rfl rfl rfl kt) ?_
  have Oh := K.old O0 all0
  obtain ⟨T, L2, X, e0, K, st⟩ := (cs10 hw).pure X hx hZ hown e0 K (A := [(.ref xa)]) ⟨rfl, _, _, rfl, E_xa⟩ (rEmU_1 l Z a0 hw [] xa xb xk xc0 h0 Oh F_value_xa V_xb) (fun _ _ _ q => q) (W := 0) (by decide) hml (Ls := #[rv xa, uu, uu, uu]) rfl (rest := []) rfl rfl hby d4_1
  refine oWk.st (fun _ kt => st _ (zF X hx hby d4_4 rfl rfl ((if0 _ _).trans (teq (by decide)).1) (pc' := 9) rfl (zA X hx hby d4_9 rfl rfl rfl (zA X hx hby d4_10 rfl rfl rfl kt)))) ?_
  obtain ⟨T, L4, X, e0, K, st⟩ := (cs16 hw).pure X hx hZ hown e0 K (A := [(.ref xa)]) ⟨rfl, _, _, rfl, E_xa⟩ (rLnU_1 l Z a0 hw [] xa xb xk xz xc0 h0 Oh S_COMPACT_STRINGS hz E_xa F_coder_xa F_value_xa V_xb) (fun _ _ _ q => q) (W := 1) (by decide) hml (Ls := #[rv xa, uu, uu, uu]) rfl (rest := [(.ref xa)]) rfl rfl hby d4_11
  refine oWk.st (fun _ kt => st _ (zK X hx hby d4_14 rfl (XS.isub X.here hx rfl (hb hby d4_15) rfl kt))) ?_
  obtain ⟨T, L6, X, e0, K, st⟩ := (cs17 hw).pure X hx hZ hown e0 K (A := [(.ref xa), (.int (0 : Int32))]) ⟨rfl, _, _, rfl, E_xa⟩ (rCAU_1_0 l Z a0 hw [] xa xb xk xfm xz xc0 h0 Oh S_COMPACT_STRINGS hz S__assertionsDisabled S_HI_BYTE_SHIFT S_LO_BYTE_SHIFT S_SIOOBE_FORMATTER hcat hr0 E_xa F_coder_xa F_value_xa V_xb) (fun _ _ _ q => q) (W := 0) (by decide) hml (Ls := #[rv xa, uu, uu, uu]) rfl (rest := []) rfl rfl hby d4_16
  refine oWk.to (mkF m 23 #[rv xa, iv xc0, uu, uu] [(.int xc0), (.int 46)]) (fun _ kt => st _ (zSn X hx hby d4_19 rfl rfl (l' := #[rv xa, iv xc0, uu, uu]) rfl (zL X hx hby d4_20 rfl (zI X hx hby d4_22 rfl rfl kt)))) ?_
  by_cases hq46 : (46 : Int32) = xc0
  · refine oWk.to (mkF m 32 #[rv xa, iv xc0, uu, uu] []) (fun _ kt => zY X hx hby d4_23 rfl rfl (teq hq46).1 (pc' := 32) rfl kt) ?_
    refine oWk.to (mkF m 33 #[rv xa, iv xc0, uu, uu] [(.int 0)]) (fun _ kt => zK X hx hby d4_32 rfl kt) ?_
    exact oRetZ X hx hlk hret (hb hby d4_33) (Or.inl rfl) (by rw [e0]; exact ⟨(by rw [oBi_f (fun q => q.1 hq46.symm)]), rfl, K⟩) (by decide) (by decide)
  · refine oWk.to (mkF m 26 #[rv xa, iv xc0, uu, uu] []) (fun _ kt => zN X hx hby d4_23 rfl rfl (feq hq46).1 kt) ?_
    refine oWk.to (mkF m 29 #[rv xa, iv xc0, uu, uu] [(.int xc0), (.int 32)]) (fun _ kt => zL X hx hby d4_26 rfl (zI X hx hby d4_28 rfl rfl kt)) ?_
    by_cases hq32 : (32 : Int32) = xc0
    · refine oWk.to (mkF m 32 #[rv xa, iv xc0, uu, uu] []) (fun _ kt => zN X hx hby d4_29 rfl rfl (teq hq32).2 kt) ?_
      refine oWk.to (mkF m 33 #[rv xa, iv xc0, uu, uu] [(.int 0)]) (fun _ kt => zK X hx hby d4_32 rfl kt) ?_
      exact oRetZ X hx hlk hret (hb hby d4_33) (Or.inl rfl) (by rw [e0]; exact ⟨(by rw [oBi_f (fun q => q.2.1 hq32.symm)]), rfl, K⟩) (by decide) (by decide)
    · refine oWk.to (mkF m 34 #[rv xa, iv xc0, uu, uu] []) (fun _ kt => zY X hx hby d4_29 rfl rfl (feq hq32).2 (pc' := 34) rfl kt) ?_
      refine oWk.st (fun _ kt => zK X hx hby d4_34 rfl (zSn X hx hby d4_35 rfl rfl (l' := #[rv xa, iv xc0, iv 0, uu]) rfl (zI X hx hby d4_36 rfl rfl (zA X hx hby d4_37 rfl rfl rfl kt)))) ?_
      obtain ⟨T, L8, X, e0, K, st⟩ := (cs16 hw).pure X hx hZ hown e0 K (A := [(.ref xa)]) ⟨rfl, _, _, rfl, E_xa⟩ (rLnU_1 l Z a0 hw [] xa xb xk xz xc0 h0 Oh S_COMPACT_STRINGS hz E_xa F_coder_xa F_value_xa V_xb) (fun _ _ _ q => q) (W := 1) (by decide) hml (Ls := #[rv xa, iv xc0, iv 0, uu]) rfl (rest := [(.int (0 : Int32))]) rfl rfl hby d4_38
      refine oWk.st (fun _ kt => st _ (zN X hx hby d4_41 rfl rfl (tlt (by decide)).2.1 (zA X hx hby d4_44 rfl rfl rfl (zI X hx hby d4_45 rfl rfl kt)))) ?_
      obtain ⟨T, L10, X, e0, K, st⟩ := (cs17 hw).pure X hx hZ hown e0 K (A := [(.ref xa), (.int (0 : Int32))]) ⟨rfl, _, _, rfl, E_xa⟩ (rCAU_1_0 l Z a0 hw [] xa xb xk xfm xz xc0 h0 Oh S_COMPACT_STRINGS hz S__assertionsDisabled S_HI_BYTE_SHIFT S_LO_BYTE_SHIFT S_SIOOBE_FORMATTER hcat hr0 E_xa F_coder_xa F_value_xa V_xb) (fun _ _ _ q => q) (W := 0) (by decide) hml (Ls := #[rv xa, iv xc0, iv 0, uu]) rfl (rest := []) rfl rfl hby d4_46
      refine oWk.to (mkF m 53 #[rv xa, iv xc0, iv 0, iv xc0] [(.int xc0), (.int 47)]) (fun _ kt => st _ (zSn X hx hby d4_49 rfl rfl (l' := #[rv xa, iv xc0, iv 0, iv xc0]) rfl (zL X hx hby d4_50 rfl (zI X hx hby d4_52 rfl rfl kt)))) ?_
      by_cases h47_0 : (47 : Int32) = xc0
      · refine oWk.to (mkF m 75 #[rv xa, iv xc0, iv 0, iv xc0] []) (fun _ kt => zY X hx hby d4_53 rfl rfl (teq h47_0).1 (pc' := 75) rfl kt) ?_
        refine oWk.to (mkF m 76 #[rv xa, iv xc0, iv 0, iv xc0] [(.int 0)]) (fun _ kt => zK X hx hby d4_75 rfl kt) ?_
        exact oRetZ X hx hlk hret (hb hby d4_76) (Or.inl rfl) (by rw [e0]; exact ⟨(by rw [oBi_f (fun q => q.2.2.1 h47_0.symm)]), rfl, K⟩) (by decide) (by decide)
      · refine oWk.to (mkF m 56 #[rv xa, iv xc0, iv 0, iv xc0] []) (fun _ kt => zN X hx hby d4_53 rfl rfl (feq h47_0).1 kt) ?_
        refine oWk.to (mkF m 59 #[rv xa, iv xc0, iv 0, iv xc0] [(.int xc0), (.int 92)]) (fun _ kt => zL X hx hby d4_56 rfl (zI X hx hby d4_58 rfl rfl kt)) ?_
        by_cases h92_0 : (92 : Int32) = xc0
        · refine oWk.to (mkF m 75 #[rv xa, iv xc0, iv 0, iv xc0] []) (fun _ kt => zY X hx hby d4_59 rfl rfl (teq h92_0).1 (pc' := 75) rfl kt) ?_
          refine oWk.to (mkF m 76 #[rv xa, iv xc0, iv 0, iv xc0] [(.int 0)]) (fun _ kt => zK X hx hby d4_75 rfl kt) ?_
          exact oRetZ X hx hlk hret (hb hby d4_76) (Or.inl rfl) (by rw [e0]; exact ⟨(by rw [oBi_f (fun q => q.2.2.2.1 h92_0.symm)]), rfl, K⟩) (by decide) (by decide)
        · refine oWk.to (mkF m 62 #[rv xa, iv xc0, iv 0, iv xc0] []) (fun _ kt => zN X hx hby d4_59 rfl rfl (feq h92_0).1 kt) ?_
          refine oWk.to (mkF m 65 #[rv xa, iv xc0, iv 0, iv xc0] [(.int xc0), (.int 58)]) (fun _ kt => zL X hx hby d4_62 rfl (zI X hx hby d4_64 rfl rfl kt)) ?_
          by_cases h58_0 : (58 : Int32) = xc0
          · refine oWk.to (mkF m 75 #[rv xa, iv xc0, iv 0, iv xc0] []) (fun _ kt => zY X hx hby d4_65 rfl rfl (teq h58_0).1 (pc' := 75) rfl kt) ?_
            refine oWk.to (mkF m 76 #[rv xa, iv xc0, iv 0, iv xc0] [(.int 0)]) (fun _ kt => zK X hx hby d4_75 rfl kt) ?_
            exact oRetZ X hx hlk hret (hb hby d4_76) (Or.inl rfl) (by rw [e0]; exact ⟨(by rw [oBi_f (fun q => q.2.2.2.2.1 h58_0.symm)]), rfl, K⟩) (by decide) (by decide)
          · refine oWk.to (mkF m 68 #[rv xa, iv xc0, iv 0, iv xc0] []) (fun _ kt => zN X hx hby d4_65 rfl rfl (feq h58_0).1 kt) ?_
            refine oWk.st (fun _ kt => zI X hx hby d4_68 rfl rfl kt) ?_
            obtain ⟨T, L12, X, e0, K, st⟩ := (cs18 hw).pure X hx hZ hown e0 K (A := [(.int xc0)]) rfl (rIso l Z a0 hw [] xc0 h0 Oh hr0) (fun _ _ _ q => q) (W := 0) (by decide) hml (Ls := #[rv xa, iv xc0, iv 0, iv xc0]) rfl (rest := []) rfl rfl hby d4_69
            refine oWk.to (mkF m 72 #[rv xa, iv xc0, iv 0, iv xc0] [(.int (oBi (oIso xc0)))]) (fun _ kt => st _ kt) ?_
            by_cases hio_0 : oIso xc0
            · refine oWk.to (mkF m 75 #[rv xa, iv xc0, iv 0, iv xc0] []) (fun _ kt => zH X hx hby d4_72 rfl rfl ((if0 _ _).trans (feq (oBi_ne hio_0)).1) kt) ?_
              refine oWk.to (mkF m 76 #[rv xa, iv xc0, iv 0, iv xc0] [(.int 0)]) (fun _ kt => zK X hx hby d4_75 rfl kt) ?_
              exact oRetZ X hx hlk hret (hb hby d4_76) (Or.inl rfl) (by rw [e0]; exact ⟨(by rw [oBi_f (fun q => q.2.2.2.2.2 hio_0)]), rfl, K⟩) (by decide) (by decide)
            · refine oWk.to (mkF m 77 #[rv xa, iv xc0, iv 0, iv xc0] []) (fun _ kt => zF X hx hby d4_72 rfl rfl ((if0 _ _).trans (teq (oBi_f hio_0)).1) (pc' := 77) rfl kt) ?_
              refine oWk.st (fun _ kt => zC X hx hby d4_77 rfl rfl (l' := #[rv xa, iv xc0, iv ((0 : Int32) + (1 : Int32)), iv xc0]) rfl (zG X hx hby d4_80 rfl (pc' := 36) rfl (zI X hx hby d4_36 rfl rfl (zA X hx hby d4_37 rfl rfl rfl kt)))) ?_
              obtain ⟨T, L14, X, e0, K, st⟩ := (cs16 hw).pure X hx hZ hown e0 K (A := [(.ref xa)]) ⟨rfl, _, _, rfl, E_xa⟩ (rLnU_1 l Z a0 hw [] xa xb xk xz xc0 h0 Oh S_COMPACT_STRINGS hz E_xa F_coder_xa F_value_xa V_xb) (fun _ _ _ q => q) (W := 1) (by decide) hml (Ls := #[rv xa, iv xc0, iv 1, iv xc0]) rfl (rest := [(.int (1 : Int32))]) rfl rfl hby d4_38
              refine oWk.to (mkF m 84 #[rv xa, iv xc0, iv 1, iv xc0] [(.int 1)]) (fun _ kt => st _ (zY X hx hby d4_41 rfl rfl (flt (by decide)).2.1 (pc' := 83) rfl (zK X hx hby d4_83 rfl kt))) ?_
              exact oRetZ X hx hlk hret (hb hby d4_84) (Or.inr rfl) (by rw [e0]; exact ⟨(by rw [oBi_t ⟨fun q => hq46 q.symm, fun q => hq32 q.symm, ⟨fun q => h47_0 q.symm, fun q => h92_0 q.symm, fun q => h58_0 q.symm, hio_0⟩⟩]), rfl, K⟩) (by decide) (by decide)
def Q_rEmL_2 (Z : State) (xa xb : Addr) (xk : ClassId) (xc0 xc1 : Int32) (h0 : Heap) (v : Option Value) (h : Heap) (L : List Loc) : Prop := v = some (.int (0 : Int32)) ∧ h = h0 ∧ oKp h0 h [] L
theorem rEmL_2 (l : Launch) (Z : State) (a0 : Array Value) (hw : oHW a0 Z) (ws : List Jvm.Cond) (xa xb : Addr) (xk : ClassId) (xc0 xc1 : Int32) (h0 : Heap) (O0 : Ext Z.heap h0) (F_value_xa : Fld Z h0 xa Y0 "value" "[B" (.ref xb)) (V_xb : Arv Z h0 xb xk .byte (2 : Int32) [(ib xc0), (ib xc1)] (.int (0 : Int32))) :
    oCon l Z yy13 jdk_42_method_55_code 1 (some .boolean) ws ({ frames := 0, cells := 0, slots := 0, locals := 0 } : Room) #[(.ref xa)] h0 (Q_rEmL_2 Z xa xb xk xc0 xc1 h0) := by
  refine oCon.of (plainFor_of_name pn_2) ?_
  intro p e s m below meth c T X hx hby hml hown hnm hret hlk hZ e0
  have hml : c.maxLocals = 1 := hml
  have K : oKp h0 h0 [] [] := oKp.nil _ _
  refine oWk.cast (g' := (mkF m 0 #[rv xa] [])) (by first | rfl | (simp [entryFrame, mkF, argsToLocals, Value.category]; done)) ?_
  refine oWk.st (fun _ kt => zA X hx hby d5_0 rfl rfl rfl kt) ?_
  obtain ⟨T, X, e0, st⟩ := getF X hx hZ hown (host := "") (Or.inl (oW hw 22 rfl)) Via.refl e0 F_value_xa (g := (mkF m 1 #[rv xa] [(.ref xa)])) rfl rfl (hb hby d5_1)
  refine oWk.to (mkF m 13 #[rv xa] [(.int 0)]) (fun _ kt => st _ (oAl X hx hZ e0 V_xb hby d5_4 rfl rfl (zF X hx hby d5_5 rfl rfl ((if0 _ _).trans (feq (by decide)).2) (pc' := 12) rfl (zK X hx hby d5_12 rfl kt)))) ?_
  exact oRetZ X hx hlk hret (hb hby d5_13) (Or.inl rfl) (by rw [e0]; exact ⟨rfl, rfl, K⟩) (by decide) (by decide)
def Q_rLn_2 (Z : State) (xa xb : Addr) (xk : ClassId) (xz xc0 xc1 : Int32) (h0 : Heap) (v : Option Value) (h : Heap) (L : List Loc) : Prop := v = some (.int (2 : Int32)) ∧ h = h0 ∧ oKp h0 h [] L
theorem rLn_2 (l : Launch) (Z : State) (a0 : Array Value) (hw : oHW a0 Z) (ws : List Jvm.Cond) (xa xb : Addr) (xk : ClassId) (xz xc0 xc1 : Int32) (h0 : Heap) (O0 : Ext Z.heap h0) (S_COMPACT_STRINGS : Sta Z Z.heap Y0 Y6 "Z" (.int xz)) (hz : ¬ xz = (0 : Int32)) (E_xa : Exa Z h0 xa Y0) (F_coder_xa : Fld Z h0 xa Y0 "coder" "B" (.int (0 : Int32))) (F_value_xa : Fld Z h0 xa Y0 "value" "[B" (.ref xb)) (V_xb : Arv Z h0 xb xk .byte (2 : Int32) [(ib xc0), (ib xc1)] (.int (0 : Int32))) :
    oCon l Z yy16 jdk_42_method_54_code 1 (some .int) ws ({ frames := 1, cells := 0, slots := 0, locals := 13 } : Room) #[(.ref xa)] h0 (Q_rLn_2 Z xa xb xk xz xc0 xc1 h0) := by
  refine oCon.of (plainFor_of_name pn_2) ?_
  intro p e s m below meth c T X hx hby hml hown hnm hret hlk hZ e0
  have hml : c.maxLocals = 1 := hml
  have K : oKp h0 h0 [] [] := oKp.nil _ _
  refine oWk.cast (g' := (mkF m 0 #[rv xa] [])) (by first | rfl | (simp [entryFrame, mkF, argsToLocals, Value.category]; done)) ?_
  refine oWk.st (fun _ kt => zA X hx hby d10_0 rfl rfl rfl kt) ?_
  obtain ⟨T, X, e0, st⟩ := getF X hx hZ hown (host := "") (Or.inl (oW hw 22 rfl)) Via.refl e0 F_value_xa (g := (mkF m 1 #[rv xa] [(.ref xa)])) rfl rfl (hb hby d10_1)
  refine oWk.st (fun _ kt => st _ (oAl X hx hZ e0 V_xb hby d10_4 rfl rfl (zA X hx hby d10_5 rfl rfl rfl kt))) ?_
  have Oh := K.old O0 all0
  obtain ⟨T, L3, X, e0, K, st⟩ := (cs11 hw).pure X hx hZ hown e0 K (A := [(.ref xa)]) ⟨rfl, _, _, rfl, E_xa⟩ (rCdr l Z a0 hw [] xa xz h0 Oh S_COMPACT_STRINGS hz F_coder_xa) (fun _ _ _ q => q) (W := 1) (by decide) hml (Ls := #[rv xa]) rfl (rest := [(.int (2 : Int32))]) rfl rfl hby d10_6
  refine oWk.to (mkF m 10 #[rv xa] [(.int 2)]) (fun _ kt => st _ (XS.ishr X.here hx rfl (hb hby d10_9) rfl kt)) ?_
  exact oRetI X hx hlk hret (hb hby d10_10) (by rw [e0]; exact ⟨rfl, rfl, K⟩) (by decide) (by decide)
def Q_rLC_2_0 (Z : State) (xb : Addr) (xk : ClassId) (xfm : Value) (xc0 xc1 : Int32) (h0 : Heap) (v : Option Value) (h : Heap) (L : List Loc) : Prop := v = some (.int xc0) ∧ h = h0 ∧ oKp h0 h [] L
theorem rLC_2_0 (l : Launch) (Z : State) (a0 : Array Value) (hw : oHW a0 Z) (ws : List Jvm.Cond) (xb : Addr) (xk : ClassId) (xfm : Value) (xc0 xc1 : Int32) (h0 : Heap) (O0 : Ext Z.heap h0) (S_SIOOBE_FORMATTER : Sta Z Z.heap Y2 Y4 Y5 xfm) (hcat : xfm.category = 1) (hr : 0 ≤ xc0.toInt ∧ xc0.toInt < 256) (V_xb : Arv Z h0 xb xk .byte (2 : Int32) [(ib xc0), (ib xc1)] (.int (0 : Int32))) :
    oCon l Z yy20 jdk_43_method_2_code 2 (some .char) ws ({ frames := 2, cells := 0, slots := 0, locals := 27 } : Room) #[(.ref xb), (.int (0 : Int32))] h0 (Q_rLC_2_0 Z xb xk xfm xc0 xc1 h0) := by
  refine oCon.of (plainFor_of_name pn_6) ?_
  intro p e s m below meth c T X hx hby hml hown hnm hret hlk hZ e0
  have hml : c.maxLocals = 2 := hml
  have K : oKp h0 h0 [] [] := oKp.nil _ _
  refine oWk.cast (g' := (mkF m 0 #[rv xb, iv 0] [])) (by first | rfl | (simp [entryFrame, mkF, argsToLocals, Value.category]; done)) ?_
  refine oWk.st (fun _ kt => zI X hx hby d14_0 rfl rfl (zA X hx hby d14_1 rfl rfl rfl (oAl X hx hZ e0 V_xb hby d14_2 rfl rfl kt))) ?_
  have Oh := K.old O0 all0
  obtain ⟨T, L3, X, e0, K, st⟩ := (cs13 hw).pure X hx hZ hown e0 K (A := [(.int (0 : Int32)), (.int (2 : Int32))]) rfl (rCkI l Z a0 hw [] (0 : Int32) (2 : Int32) xfm h0 Oh S_SIOOBE_FORMATTER hcat (by decide) (by decide)) (fun _ _ _ q => q) (W := 0) (by decide) hml (Ls := #[rv xb, iv 0]) rfl (rest := []) rfl rfl hby d14_3
  refine oWk.to (mkF m 14 #[rv xb, iv 0] [(.int (((xc0.toInt8.toInt32) &&& (255 : Int32)).toUInt32.toUInt16.toUInt32.toInt32))]) (fun _ kt => st _ (zA X hx hby d14_6 rfl rfl rfl (zI X hx hby d14_7 rfl rfl (oLdB X hx hZ e0 V_xb (0 : Int32) (ib xc0) ⟨by decide, by decide⟩ rfl hby d14_8 rfl rfl (zM X hx hby d14_9 rfl (XS.iand X.here hx rfl (hb hby d14_12) rfl (XS.i2c X.here hx rfl (hb hby d14_13) rfl kt))))))) ?_
  rw [oBk hr]
  show oWk _ _ _ _ T (mkF m 14 #[rv xb, iv 0] [(.int xc0)])
  exact oRetN X hx hlk hret (Or.inr (Or.inl rfl)) (show narrow .char (.int xc0) = .int xc0 from congrArg Value.int (oChr hr)) (hb hby d14_14) (by rw [e0]; exact ⟨rfl, rfl, K⟩) (by decide) (by decide)
def Q_rCA_2_0 (Z : State) (xa xb : Addr) (xk : ClassId) (xfm : Value) (xz xc0 xc1 : Int32) (h0 : Heap) (v : Option Value) (h : Heap) (L : List Loc) : Prop := v = some (.int xc0) ∧ h = h0 ∧ oKp h0 h [] L
theorem rCA_2_0 (l : Launch) (Z : State) (a0 : Array Value) (hw : oHW a0 Z) (ws : List Jvm.Cond) (xa xb : Addr) (xk : ClassId) (xfm : Value) (xz xc0 xc1 : Int32) (h0 : Heap) (O0 : Ext Z.heap h0) (S_COMPACT_STRINGS : Sta Z Z.heap Y0 Y6 "Z" (.int xz)) (hz : ¬ xz = (0 : Int32)) (S_SIOOBE_FORMATTER : Sta Z Z.heap Y2 Y4 Y5 xfm) (hcat : xfm.category = 1) (hr : 0 ≤ xc0.toInt ∧ xc0.toInt < 256) (E_xa : Exa Z h0 xa Y0) (F_coder_xa : Fld Z h0 xa Y0 "coder" "B" (.int (0 : Int32))) (F_value_xa : Fld Z h0 xa Y0 "value" "[B" (.ref xb)) (V_xb : Arv Z h0 xb xk .byte (2 : Int32) [(ib xc0), (ib xc1)] (.int (0 : Int32))) :
    oCon l Z yy21 jdk_42_method_56_code 2 (some .char) ws ({ frames := 3, cells := 0, slots := 0, locals := 40 } : Room) #[(.ref xa), (.int (0 : Int32))] h0 (Q_rCA_2_0 Z xa xb xk xfm xz xc0 xc1 h0) := by
  refine oCon.of (plainFor_of_name pn_2) ?_
  intro p e s m below meth c T X hx hby hml hown hnm hret hlk hZ e0
  have hml : c.maxLocals = 2 := hml
  have K : oKp h0 h0 [] [] := oKp.nil _ _
  refine oWk.cast (g' := (mkF m 0 #[rv xa, iv 0] [])) (by first | rfl | (simp [entryFrame, mkF, argsToLocals, Value.category]; done)) ?_
  refine oWk.st (fun _ kt => zA X hx hby d12_0 rfl rfl rfl kt) ?_
  have Oh := K.old O0 all0
  obtain ⟨T, L2, X, e0, K, st⟩ := (cs14 hw).pure X hx hZ hown e0 K (A := [(.ref xa)]) ⟨rfl, _, _, rfl, E_xa⟩ (rIsL l Z a0 hw [] xa xz h0 Oh S_COMPACT_STRINGS hz F_coder_xa) (fun _ _ _ q => q) (W := 0) (by decide) hml (Ls := #[rv xa, iv 0]) rfl (rest := []) rfl rfl hby d12_1
  refine oWk.st (fun _ kt => st _ (zH X hx hby d12_4 rfl rfl ((if0 _ _).trans (feq (by decide)).1) (zA X hx hby d12_7 rfl rfl rfl kt))) ?_
  obtain ⟨T, X, e0, st⟩ := getF X hx hZ hown (host := "") (Or.inl (oW hw 22 rfl)) Via.refl e0 F_value_xa (g := (mkF m 8 #[rv xa, iv 0] [(.ref xa)])) rfl rfl (hb hby d12_8)
  refine oWk.st (fun _ kt => st _ (zI X hx hby d12_11 rfl rfl kt)) ?_
  obtain ⟨T, L4, X, e0, K, st⟩ := (cs15 hw).pure X hx hZ hown e0 K (A := [(.ref xb), (.int (0 : Int32))]) rfl (rLC_2_0 l Z a0 hw [] xb xk xfm xc0 xc1 h0 Oh S_SIOOBE_FORMATTER hcat hr V_xb) (fun _ _ _ q => q) (W := 0) (by decide) hml (Ls := #[rv xa, iv 0]) rfl (rest := []) rfl rfl hby d12_12
  refine oWk.to (mkF m 15 #[rv xa, iv 0] [(.int xc0)]) (fun _ kt => st _ kt) ?_
  exact oRetN X hx hlk hret (Or.inr (Or.inl rfl)) (show narrow .char (.int xc0) = .int xc0 from congrArg Value.int (oChr hr)) (hb hby d12_15) (by rw [e0]; exact ⟨rfl, rfl, K⟩) (by decide) (by decide)
def Q_rLC_2_1 (Z : State) (xb : Addr) (xk : ClassId) (xfm : Value) (xc0 xc1 : Int32) (h0 : Heap) (v : Option Value) (h : Heap) (L : List Loc) : Prop := v = some (.int xc1) ∧ h = h0 ∧ oKp h0 h [] L
theorem rLC_2_1 (l : Launch) (Z : State) (a0 : Array Value) (hw : oHW a0 Z) (ws : List Jvm.Cond) (xb : Addr) (xk : ClassId) (xfm : Value) (xc0 xc1 : Int32) (h0 : Heap) (O0 : Ext Z.heap h0) (S_SIOOBE_FORMATTER : Sta Z Z.heap Y2 Y4 Y5 xfm) (hcat : xfm.category = 1) (hr : 0 ≤ xc1.toInt ∧ xc1.toInt < 256) (V_xb : Arv Z h0 xb xk .byte (2 : Int32) [(ib xc0), (ib xc1)] (.int (0 : Int32))) :
    oCon l Z yy20 jdk_43_method_2_code 2 (some .char) ws ({ frames := 2, cells := 0, slots := 0, locals := 27 } : Room) #[(.ref xb), (.int (1 : Int32))] h0 (Q_rLC_2_1 Z xb xk xfm xc0 xc1 h0) := by
  refine oCon.of (plainFor_of_name pn_6) ?_
  intro p e s m below meth c T X hx hby hml hown hnm hret hlk hZ e0
  have hml : c.maxLocals = 2 := hml
  have K : oKp h0 h0 [] [] := oKp.nil _ _
  refine oWk.cast (g' := (mkF m 0 #[rv xb, iv 1] [])) (by first | rfl | (simp [entryFrame, mkF, argsToLocals, Value.category]; done)) ?_
  refine oWk.st (fun _ kt => zI X hx hby d14_0 rfl rfl (zA X hx hby d14_1 rfl rfl rfl (oAl X hx hZ e0 V_xb hby d14_2 rfl rfl kt))) ?_
  have Oh := K.old O0 all0
  obtain ⟨T, L3, X, e0, K, st⟩ := (cs13 hw).pure X hx hZ hown e0 K (A := [(.int (1 : Int32)), (.int (2 : Int32))]) rfl (rCkI l Z a0 hw [] (1 : Int32) (2 : Int32) xfm h0 Oh S_SIOOBE_FORMATTER hcat (by decide) (by decide)) (fun _ _ _ q => q) (W := 0) (by decide) hml (Ls := #[rv xb, iv 1]) rfl (rest := []) rfl rfl hby d14_3
  refine oWk.to (mkF m 14 #[rv xb, iv 1] [(.int (((xc1.toInt8.toInt32) &&& (255 : Int32)).toUInt32.toUInt16.toUInt32.toInt32))]) (fun _ kt => st _ (zA X hx hby d14_6 rfl rfl rfl (zI X hx hby d14_7 rfl rfl (oLdB X hx hZ e0 V_xb (1 : Int32) (ib xc1) ⟨by decide, by decide⟩ rfl hby d14_8 rfl rfl (zM X hx hby d14_9 rfl (XS.iand X.here hx rfl (hb hby d14_12) rfl (XS.i2c X.here hx rfl (hb hby d14_13) rfl kt))))))) ?_
  rw [oBk hr]
  show oWk _ _ _ _ T (mkF m 14 #[rv xb, iv 1] [(.int xc1)])
  exact oRetN X hx hlk hret (Or.inr (Or.inl rfl)) (show narrow .char (.int xc1) = .int xc1 from congrArg Value.int (oChr hr)) (hb hby d14_14) (by rw [e0]; exact ⟨rfl, rfl, K⟩) (by decide) (by decide)
def Q_rCA_2_1 (Z : State) (xa xb : Addr) (xk : ClassId) (xfm : Value) (xz xc0 xc1 : Int32) (h0 : Heap) (v : Option Value) (h : Heap) (L : List Loc) : Prop := v = some (.int xc1) ∧ h = h0 ∧ oKp h0 h [] L
theorem rCA_2_1 (l : Launch) (Z : State) (a0 : Array Value) (hw : oHW a0 Z) (ws : List Jvm.Cond) (xa xb : Addr) (xk : ClassId) (xfm : Value) (xz xc0 xc1 : Int32) (h0 : Heap) (O0 : Ext Z.heap h0) (S_COMPACT_STRINGS : Sta Z Z.heap Y0 Y6 "Z" (.int xz)) (hz : ¬ xz = (0 : Int32)) (S_SIOOBE_FORMATTER : Sta Z Z.heap Y2 Y4 Y5 xfm) (hcat : xfm.category = 1) (hr : 0 ≤ xc1.toInt ∧ xc1.toInt < 256) (E_xa : Exa Z h0 xa Y0) (F_coder_xa : Fld Z h0 xa Y0 "coder" "B" (.int (0 : Int32))) (F_value_xa : Fld Z h0 xa Y0 "value" "[B" (.ref xb)) (V_xb : Arv Z h0 xb xk .byte (2 : Int32) [(ib xc0), (ib xc1)] (.int (0 : Int32))) :
    oCon l Z yy21 jdk_42_method_56_code 2 (some .char) ws ({ frames := 3, cells := 0, slots := 0, locals := 40 } : Room) #[(.ref xa), (.int (1 : Int32))] h0 (Q_rCA_2_1 Z xa xb xk xfm xz xc0 xc1 h0) := by
  refine oCon.of (plainFor_of_name pn_2) ?_
  intro p e s m below meth c T X hx hby hml hown hnm hret hlk hZ e0
  have hml : c.maxLocals = 2 := hml
  have K : oKp h0 h0 [] [] := oKp.nil _ _
  refine oWk.cast (g' := (mkF m 0 #[rv xa, iv 1] [])) (by first | rfl | (simp [entryFrame, mkF, argsToLocals, Value.category]; done)) ?_
  refine oWk.st (fun _ kt => zA X hx hby d12_0 rfl rfl rfl kt) ?_
  have Oh := K.old O0 all0
  obtain ⟨T, L2, X, e0, K, st⟩ := (cs14 hw).pure X hx hZ hown e0 K (A := [(.ref xa)]) ⟨rfl, _, _, rfl, E_xa⟩ (rIsL l Z a0 hw [] xa xz h0 Oh S_COMPACT_STRINGS hz F_coder_xa) (fun _ _ _ q => q) (W := 0) (by decide) hml (Ls := #[rv xa, iv 1]) rfl (rest := []) rfl rfl hby d12_1
  refine oWk.st (fun _ kt => st _ (zH X hx hby d12_4 rfl rfl ((if0 _ _).trans (feq (by decide)).1) (zA X hx hby d12_7 rfl rfl rfl kt))) ?_
  obtain ⟨T, X, e0, st⟩ := getF X hx hZ hown (host := "") (Or.inl (oW hw 22 rfl)) Via.refl e0 F_value_xa (g := (mkF m 8 #[rv xa, iv 1] [(.ref xa)])) rfl rfl (hb hby d12_8)
  refine oWk.st (fun _ kt => st _ (zI X hx hby d12_11 rfl rfl kt)) ?_
  obtain ⟨T, L4, X, e0, K, st⟩ := (cs15 hw).pure X hx hZ hown e0 K (A := [(.ref xb), (.int (1 : Int32))]) rfl (rLC_2_1 l Z a0 hw [] xb xk xfm xc0 xc1 h0 Oh S_SIOOBE_FORMATTER hcat hr V_xb) (fun _ _ _ q => q) (W := 0) (by decide) hml (Ls := #[rv xa, iv 1]) rfl (rest := []) rfl rfl hby d12_12
  refine oWk.to (mkF m 15 #[rv xa, iv 1] [(.int xc1)]) (fun _ kt => st _ kt) ?_
  exact oRetN X hx hlk hret (Or.inr (Or.inl rfl)) (show narrow .char (.int xc1) = .int xc1 from congrArg Value.int (oChr hr)) (hb hby d12_15) (by rw [e0]; exact ⟨rfl, rfl, K⟩) (by decide) (by decide)
def Q_rSSL_2 (Z : State) (xa xb : Addr) (xk : ClassId) (xfm : Value) (xz xc0 xc1 : Int32) (h0 : Heap) (v : Option Value) (h : Heap) (L : List Loc) : Prop := v = some (.int (oBi (¬ xc1 = (46 : Int32) ∧ ¬ xc1 = (32 : Int32) ∧ oPl xc0 ∧ oPl xc1))) ∧ h = h0 ∧ oKp h0 h [] L
theorem rSSL_2 (l : Launch) (Z : State) (a0 : Array Value) (hw : oHW a0 Z) (ws : List Jvm.Cond) (xa xb : Addr) (xk : ClassId) (xfm : Value) (xz xc0 xc1 : Int32) (h0 : Heap) (O0 : Ext Z.heap h0) (S_COMPACT_STRINGS : Sta Z Z.heap Y0 Y6 "Z" (.int xz)) (hz : ¬ xz = (0 : Int32)) (S_SIOOBE_FORMATTER : Sta Z Z.heap Y2 Y4 Y5 xfm) (hcat : xfm.category = 1) (E_xa : Exa Z h0 xa Y0) (F_coder_xa : Fld Z h0 xa Y0 "coder" "B" (.int (0 : Int32))) (F_value_xa : Fld Z h0 xa Y0 "value" "[B" (.ref xb)) (V_xb : Arv Z h0 xb xk .byte (2 : Int32) [(ib xc0), (ib xc1)] (.int (0 : Int32))) (hr0 : 0 ≤ xc0.toInt ∧ xc0.toInt < 256) (hr1 : 0 ≤ xc1.toInt ∧ xc1.toInt < 256) :
    oCon l Z yy14 prog_11_method_4_code 4 (some .boolean) ws ({ frames := 4, cells := 0, slots := 0, locals := 53 } : Room) #[(.ref xa)] h0 (Q_rSSL_2 Z xa xb xk xfm xz xc0 xc1 h0) := by
  refine oCon.of (plainFor_of_name pn_4) ?_
  intro p e s m below meth c T X hx hby hml hown hnm hret hlk hZ e0
  have hml : c.maxLocals = 4 := hml
  have K : oKp h0 h0 [] [] := oKp.nil _ _
  refine oWk.cast (g' := (mkF m 0 #[rv xa, uu, uu, uu] [])) (by first | rfl | (simp [entryFrame, mkF, argsToLocals, Value.category]; done)) ?_
  refine oWk.st (fun _ kt => zA X hx hby d4_0 rfl rfl rfl kt) ?_
  have Oh := K.old O0 all0
  obtain ⟨T, L2, X, e0, K, st⟩ := (cs10 hw).pure X hx hZ hown e0 K (A := [(.ref xa)]) ⟨rfl, _, _, rfl, E_xa⟩ (rEmL_2 l Z a0 hw [] xa xb xk xc0 xc1 h0 Oh F_value_xa V_xb) (fun _ _ _ q => q) (W := 0) (by decide) hml (Ls := #[rv xa, uu, uu, uu]) rfl (rest := []) rfl rfl hby d4_1
  refine oWk.st (fun _ kt => st _ (zF X hx hby d4_4 rfl rfl ((if0 _ _).trans (teq (by decide)).1) (pc' := 9) rfl (zA X hx hby d4_9 rfl rfl rfl (zA X hx hby d4_10 rfl rfl rfl kt)))) ?_
  obtain ⟨T, L4, X, e0, K, st⟩ := (cs16 hw).pure X hx hZ hown e0 K (A := [(.ref xa)]) ⟨rfl, _, _, rfl, E_xa⟩ (rLn_2 l Z a0 hw [] xa xb xk xz xc0 xc1 h0 Oh S_COMPACT_STRINGS hz E_xa F_coder_xa F_value_xa V_xb) (fun _ _ _ q => q) (W := 1) (by decide) hml (Ls := #[rv xa, uu, uu, uu]) rfl (rest := [(.ref xa)]) rfl rfl hby d4_11
  refine oWk.st (fun _ kt => st _ (zK X hx hby d4_14 rfl (XS.isub X.here hx rfl (hb hby d4_15) rfl kt))) ?_
  obtain ⟨T, L6, X, e0, K, st⟩ := (cs17 hw).pure X hx hZ hown e0 K (A := [(.ref xa), (.int (1 : Int32))]) ⟨rfl, _, _, rfl, E_xa⟩ (rCA_2_1 l Z a0 hw [] xa xb xk xfm xz xc0 xc1 h0 Oh S_COMPACT_STRINGS hz S_SIOOBE_FORMATTER hcat hr1 E_xa F_coder_xa F_value_xa V_xb) (fun _ _ _ q => q) (W := 0) (by decide) hml (Ls := #[rv xa, uu, uu, uu]) rfl (rest := []) rfl rfl hby d4_16
  refine oWk.to (mkF m 23 #[rv xa, iv xc1, uu, uu] [(.int xc1), (.int 46)]) (fun _ kt => st _ (zSn X hx hby d4_19 rfl rfl (l' := #[rv xa, iv xc1, uu, uu]) rfl (zL X hx hby d4_20 rfl (zI X hx hby d4_22 rfl rfl kt)))) ?_
  by_cases hq46 : (46 : Int32) = xc1
  · refine oWk.to (mkF m 32 #[rv xa, iv xc1, uu, uu] []) (fun _ kt => zY X hx hby d4_23 rfl rfl (teq hq46).1 (pc' := 32) rfl kt) ?_
    refine oWk.to (mkF m 33 #[rv xa, iv xc1, uu, uu] [(.int 0)]) (fun _ kt => zK X hx hby d4_32 rfl kt) ?_
    exact oRetZ X hx hlk hret (hb hby d4_33) (Or.inl rfl) (by rw [e0]; exact ⟨(by rw [oBi_f (fun q => q.1 hq46.symm)]), rfl, K⟩) (by decide) (by decide)
  · refine oWk.to (mkF m 26 #[rv xa, iv xc1, uu, uu] []) (fun _ kt => zN X hx hby d4_23 rfl rfl (feq hq46).1 kt) ?_
    refine oWk.to (mkF m 29 #[rv xa, iv xc1, uu, uu] [(.int xc1), (.int 32)]) (fun _ kt => zL X hx hby d4_26 rfl (zI X hx hby d4_28 rfl rfl kt)) ?_
    by_cases hq32 : (32 : Int32) = xc1
    · refine oWk.to (mkF m 32 #[rv xa, iv xc1, uu, uu] []) (fun _ kt => zN X hx hby d4_29 rfl rfl (teq hq32).2 kt) ?_
      refine oWk.to (mkF m 33 #[rv xa, iv xc1, uu, uu] [(.int 0)]) (fun _ kt => zK X hx hby d4_32 rfl kt) ?_
      exact oRetZ X hx hlk hret (hb hby d4_33) (Or.inl rfl) (by rw [e0]; exact ⟨(by rw [oBi_f (fun q => q.2.1 hq32.symm)]), rfl, K⟩) (by decide) (by decide)
    · refine oWk.to (mkF m 34 #[rv xa, iv xc1, uu, uu] []) (fun _ kt => zY X hx hby d4_29 rfl rfl (feq hq32).2 (pc' := 34) rfl kt) ?_
      refine oWk.st (fun _ kt => zK X hx hby d4_34 rfl (zSn X hx hby d4_35 rfl rfl (l' := #[rv xa, iv xc1, iv 0, uu]) rfl (zI X hx hby d4_36 rfl rfl (zA X hx hby d4_37 rfl rfl rfl kt)))) ?_
      obtain ⟨T, L8, X, e0, K, st⟩ := (cs16 hw).pure X hx hZ hown e0 K (A := [(.ref xa)]) ⟨rfl, _, _, rfl, E_xa⟩ (rLn_2 l Z a0 hw [] xa xb xk xz xc0 xc1 h0 Oh S_COMPACT_STRINGS hz E_xa F_coder_xa F_value_xa V_xb) (fun _ _ _ q => q) (W := 1) (by decide) hml (Ls := #[rv xa, iv xc1, iv 0, uu]) rfl (rest := [(.int (0 : Int32))]) rfl rfl hby d4_38
      refine oWk.st (fun _ kt => st _ (zN X hx hby d4_41 rfl rfl (tlt (by decide)).2.1 (zA X hx hby d4_44 rfl rfl rfl (zI X hx hby d4_45 rfl rfl kt)))) ?_
      obtain ⟨T, L10, X, e0, K, st⟩ := (cs17 hw).pure X hx hZ hown e0 K (A := [(.ref xa), (.int (0 : Int32))]) ⟨rfl, _, _, rfl, E_xa⟩ (rCA_2_0 l Z a0 hw [] xa xb xk xfm xz xc0 xc1 h0 Oh S_COMPACT_STRINGS hz S_SIOOBE_FORMATTER hcat hr0 E_xa F_coder_xa F_value_xa V_xb) (fun _ _ _ q => q) (W := 0) (by decide) hml (Ls := #[rv xa, iv xc1, iv 0, uu]) rfl (rest := []) rfl rfl hby d4_46
      refine oWk.to (mkF m 53 #[rv xa, iv xc1, iv 0, iv xc0] [(.int xc0), (.int 47)]) (fun _ kt => st _ (zSn X hx hby d4_49 rfl rfl (l' := #[rv xa, iv xc1, iv 0, iv xc0]) rfl (zL X hx hby d4_50 rfl (zI X hx hby d4_52 rfl rfl kt)))) ?_
      by_cases h47_0 : (47 : Int32) = xc0
      · refine oWk.to (mkF m 75 #[rv xa, iv xc1, iv 0, iv xc0] []) (fun _ kt => zY X hx hby d4_53 rfl rfl (teq h47_0).1 (pc' := 75) rfl kt) ?_
        refine oWk.to (mkF m 76 #[rv xa, iv xc1, iv 0, iv xc0] [(.int 0)]) (fun _ kt => zK X hx hby d4_75 rfl kt) ?_
        exact oRetZ X hx hlk hret (hb hby d4_76) (Or.inl rfl) (by rw [e0]; exact ⟨(by rw [oBi_f (fun q => q.2.2.1.1 h47_0.symm)]), rfl, K⟩) (by decide) (by decide)
      · refine oWk.to (mkF m 56 #[rv xa, iv xc1, iv 0, iv xc0] []) (fun _ kt => zN X hx hby d4_53 rfl rfl (feq h47_0).1 kt) ?_
        refine oWk.to (mkF m 59 #[rv xa, iv xc1, iv 0, iv xc0] [(.int xc0), (.int 92)]) (fun _ kt => zL X hx hby d4_56 rfl (zI X hx hby d4_58 rfl rfl kt)) ?_
        by_cases h92_0 : (92 : Int32) = xc0
        · refine oWk.to (mkF m 75 #[rv xa, iv xc1, iv 0, iv xc0] []) (fun _ kt => zY X hx hby d4_59 rfl rfl (teq h92_0).1 (pc' := 75) rfl kt) ?_
          refine oWk.to (mkF m 76 #[rv xa, iv xc1, iv 0, iv xc0] [(.int 0)]) (fun _ kt => zK X hx hby d4_75 rfl kt) ?_
          exact oRetZ X hx hlk hret (hb hby d4_76) (Or.inl rfl) (by rw [e0]; exact ⟨(by rw [oBi_f (fun q => q.2.2.1.2.1 h92_0.symm)]), rfl, K⟩) (by decide) (by decide)
        · refine oWk.to (mkF m 62 #[rv xa, iv xc1, iv 0, iv xc0] []) (fun _ kt => zN X hx hby d4_59 rfl rfl (feq h92_0).1 kt) ?_
          refine oWk.to (mkF m 65 #[rv xa, iv xc1, iv 0, iv xc0] [(.int xc0), (.int 58)]) (fun _ kt => zL X hx hby d4_62 rfl (zI X hx hby d4_64 rfl rfl kt)) ?_
          by_cases h58_0 : (58 : Int32) = xc0
          · refine oWk.to (mkF m 75 #[rv xa, iv xc1, iv 0, iv xc0] []) (fun _ kt => zY X hx hby d4_65 rfl rfl (teq h58_0).1 (pc' := 75) rfl kt) ?_
            refine oWk.to (mkF m 76 #[rv xa, iv xc1, iv 0, iv xc0] [(.int 0)]) (fun _ kt => zK X hx hby d4_75 rfl kt) ?_
            exact oRetZ X hx hlk hret (hb hby d4_76) (Or.inl rfl) (by rw [e0]; exact ⟨(by rw [oBi_f (fun q => q.2.2.1.2.2.1 h58_0.symm)]), rfl, K⟩) (by decide) (by decide)
          · refine oWk.to (mkF m 68 #[rv xa, iv xc1, iv 0, iv xc0] []) (fun _ kt => zN X hx hby d4_65 rfl rfl (feq h58_0).1 kt) ?_
            refine oWk.st (fun _ kt => zI X hx hby d4_68 rfl rfl kt) ?_
            obtain ⟨T, L12, X, e0, K, st⟩ := (cs18 hw).pure X hx hZ hown e0 K (A := [(.int xc0)]) rfl (rIso l Z a0 hw [] xc0 h0 Oh (oR8 hr0)) (fun _ _ _ q => q) (W := 0) (by decide) hml (Ls := #[rv xa, iv xc1, iv 0, iv xc0]) rfl (rest := []) rfl rfl hby d4_69
            refine oWk.to (mkF m 72 #[rv xa, iv xc1, iv 0, iv xc0] [(.int (oBi (oIso xc0)))]) (fun _ kt => st _ kt) ?_
            by_cases hio_0 : oIso xc0
            · refine oWk.to (mkF m 75 #[rv xa, iv xc1, iv 0, iv xc0] []) (fun _ kt => zH X hx hby d4_72 rfl rfl ((if0 _ _).trans (feq (oBi_ne hio_0)).1) kt) ?_
              refine oWk.to (mkF m 76 #[rv xa, iv xc1, iv 0, iv xc0] [(.int 0)]) (fun _ kt => zK X hx hby d4_75 rfl kt) ?_
              exact oRetZ X hx hlk hret (hb hby d4_76) (Or.inl rfl) (by rw [e0]; exact ⟨(by rw [oBi_f (fun q => q.2.2.1.2.2.2 hio_0)]), rfl, K⟩) (by decide) (by decide)
            · refine oWk.to (mkF m 77 #[rv xa, iv xc1, iv 0, iv xc0] []) (fun _ kt => zF X hx hby d4_72 rfl rfl ((if0 _ _).trans (teq (oBi_f hio_0)).1) (pc' := 77) rfl kt) ?_
              refine oWk.st (fun _ kt => zC X hx hby d4_77 rfl rfl (l' := #[rv xa, iv xc1, iv ((0 : Int32) + (1 : Int32)), iv xc0]) rfl (zG X hx hby d4_80 rfl (pc' := 36) rfl (zI X hx hby d4_36 rfl rfl (zA X hx hby d4_37 rfl rfl rfl kt)))) ?_
              obtain ⟨T, L14, X, e0, K, st⟩ := (cs16 hw).pure X hx hZ hown e0 K (A := [(.ref xa)]) ⟨rfl, _, _, rfl, E_xa⟩ (rLn_2 l Z a0 hw [] xa xb xk xz xc0 xc1 h0 Oh S_COMPACT_STRINGS hz E_xa F_coder_xa F_value_xa V_xb) (fun _ _ _ q => q) (W := 1) (by decide) hml (Ls := #[rv xa, iv xc1, iv 1, iv xc0]) rfl (rest := [(.int (1 : Int32))]) rfl rfl hby d4_38
              refine oWk.st (fun _ kt => st _ (zN X hx hby d4_41 rfl rfl (tlt (by decide)).2.1 (zA X hx hby d4_44 rfl rfl rfl (zI X hx hby d4_45 rfl rfl kt)))) ?_
              obtain ⟨T, L16, X, e0, K, st⟩ := (cs17 hw).pure X hx hZ hown e0 K (A := [(.ref xa), (.int (1 : Int32))]) ⟨rfl, _, _, rfl, E_xa⟩ (rCA_2_1 l Z a0 hw [] xa xb xk xfm xz xc0 xc1 h0 Oh S_COMPACT_STRINGS hz S_SIOOBE_FORMATTER hcat hr1 E_xa F_coder_xa F_value_xa V_xb) (fun _ _ _ q => q) (W := 0) (by decide) hml (Ls := #[rv xa, iv xc1, iv 1, iv xc0]) rfl (rest := []) rfl rfl hby d4_46
              refine oWk.to (mkF m 53 #[rv xa, iv xc1, iv 1, iv xc1] [(.int xc1), (.int 47)]) (fun _ kt => st _ (zSn X hx hby d4_49 rfl rfl (l' := #[rv xa, iv xc1, iv 1, iv xc1]) rfl (zL X hx hby d4_50 rfl (zI X hx hby d4_52 rfl rfl kt)))) ?_
              by_cases h47_1 : (47 : Int32) = xc1
              · refine oWk.to (mkF m 75 #[rv xa, iv xc1, iv 1, iv xc1] []) (fun _ kt => zY X hx hby d4_53 rfl rfl (teq h47_1).1 (pc' := 75) rfl kt) ?_
                refine oWk.to (mkF m 76 #[rv xa, iv xc1, iv 1, iv xc1] [(.int 0)]) (fun _ kt => zK X hx hby d4_75 rfl kt) ?_
                exact oRetZ X hx hlk hret (hb hby d4_76) (Or.inl rfl) (by rw [e0]; exact ⟨(by rw [oBi_f (fun q => q.2.2.2.1 h47_1.symm)]), rfl, K⟩) (by decide) (by decide)
              · refine oWk.to (mkF m 56 #[rv xa, iv xc1, iv 1, iv xc1] []) (fun _ kt => zN X hx hby d4_53 rfl rfl (feq h47_1).1 kt) ?_
                refine oWk.to (mkF m 59 #[rv xa, iv xc1, iv 1, iv xc1] [(.int xc1), (.int 92)]) (fun _ kt => zL X hx hby d4_56 rfl (zI X hx hby d4_58 rfl rfl kt)) ?_
                by_cases h92_1 : (92 : Int32) = xc1
                · refine oWk.to (mkF m 75 #[rv xa, iv xc1, iv 1, iv xc1] []) (fun _ kt => zY X hx hby d4_59 rfl rfl (teq h92_1).1 (pc' := 75) rfl kt) ?_
                  refine oWk.to (mkF m 76 #[rv xa, iv xc1, iv 1, iv xc1] [(.int 0)]) (fun _ kt => zK X hx hby d4_75 rfl kt) ?_
                  exact oRetZ X hx hlk hret (hb hby d4_76) (Or.inl rfl) (by rw [e0]; exact ⟨(by rw [oBi_f (fun q => q.2.2.2.2.1 h92_1.symm)]), rfl, K⟩) (by decide) (by decide)
                · refine oWk.to (mkF m 62 #[rv xa, iv xc1, iv 1, iv xc1] []) (fun _ kt => zN X hx hby d4_59 rfl rfl (feq h92_1).1 kt) ?_
                  refine oWk.to (mkF m 65 #[rv xa, iv xc1, iv 1, iv xc1] [(.int xc1), (.int 58)]) (fun _ kt => zL X hx hby d4_62 rfl (zI X hx hby d4_64 rfl rfl kt)) ?_
                  by_cases h58_1 : (58 : Int32) = xc1
                  · refine oWk.to (mkF m 75 #[rv xa, iv xc1, iv 1, iv xc1] []) (fun _ kt => zY X hx hby d4_65 rfl rfl (teq h58_1).1 (pc' := 75) rfl kt) ?_
                    refine oWk.to (mkF m 76 #[rv xa, iv xc1, iv 1, iv xc1] [(.int 0)]) (fun _ kt => zK X hx hby d4_75 rfl kt) ?_
                    exact oRetZ X hx hlk hret (hb hby d4_76) (Or.inl rfl) (by rw [e0]; exact ⟨(by rw [oBi_f (fun q => q.2.2.2.2.2.1 h58_1.symm)]), rfl, K⟩) (by decide) (by decide)
                  · refine oWk.to (mkF m 68 #[rv xa, iv xc1, iv 1, iv xc1] []) (fun _ kt => zN X hx hby d4_65 rfl rfl (feq h58_1).1 kt) ?_
                    refine oWk.st (fun _ kt => zI X hx hby d4_68 rfl rfl kt) ?_
                    obtain ⟨T, L18, X, e0, K, st⟩ := (cs18 hw).pure X hx hZ hown e0 K (A := [(.int xc1)]) rfl (rIso l Z a0 hw [] xc1 h0 Oh (oR8 hr1)) (fun _ _ _ q => q) (W := 0) (by decide) hml (Ls := #[rv xa, iv xc1, iv 1, iv xc1]) rfl (rest := []) rfl rfl hby d4_69
                    refine oWk.to (mkF m 72 #[rv xa, iv xc1, iv 1, iv xc1] [(.int (oBi (oIso xc1)))]) (fun _ kt => st _ kt) ?_
                    by_cases hio_1 : oIso xc1
                    · refine oWk.to (mkF m 75 #[rv xa, iv xc1, iv 1, iv xc1] []) (fun _ kt => zH X hx hby d4_72 rfl rfl ((if0 _ _).trans (feq (oBi_ne hio_1)).1) kt) ?_
                      refine oWk.to (mkF m 76 #[rv xa, iv xc1, iv 1, iv xc1] [(.int 0)]) (fun _ kt => zK X hx hby d4_75 rfl kt) ?_
                      exact oRetZ X hx hlk hret (hb hby d4_76) (Or.inl rfl) (by rw [e0]; exact ⟨(by rw [oBi_f (fun q => q.2.2.2.2.2.2 hio_1)]), rfl, K⟩) (by decide) (by decide)
                    · refine oWk.to (mkF m 77 #[rv xa, iv xc1, iv 1, iv xc1] []) (fun _ kt => zF X hx hby d4_72 rfl rfl ((if0 _ _).trans (teq (oBi_f hio_1)).1) (pc' := 77) rfl kt) ?_
                      refine oWk.st (fun _ kt => zC X hx hby d4_77 rfl rfl (l' := #[rv xa, iv xc1, iv ((1 : Int32) + (1 : Int32)), iv xc1]) rfl (zG X hx hby d4_80 rfl (pc' := 36) rfl (zI X hx hby d4_36 rfl rfl (zA X hx hby d4_37 rfl rfl rfl kt)))) ?_
                      obtain ⟨T, L20, X, e0, K, st⟩ := (cs16 hw).pure X hx hZ hown e0 K (A := [(.ref xa)]) ⟨rfl, _, _, rfl, E_xa⟩ (rLn_2 l Z a0 hw [] xa xb xk xz xc0 xc1 h0 Oh S_COMPACT_STRINGS hz E_xa F_coder_xa F_value_xa V_xb) (fun _ _ _ q => q) (W := 1) (by decide) hml (Ls := #[rv xa, iv xc1, iv 2, iv xc1]) rfl (rest := [(.int (2 : Int32))]) rfl rfl hby d4_38
                      refine oWk.to (mkF m 84 #[rv xa, iv xc1, iv 2, iv xc1] [(.int 1)]) (fun _ kt => st _ (zY X hx hby d4_41 rfl rfl (flt (by decide)).2.1 (pc' := 83) rfl (zK X hx hby d4_83 rfl kt))) ?_
                      exact oRetZ X hx hlk hret (hb hby d4_84) (Or.inr rfl) (by rw [e0]; exact ⟨(by rw [oBi_t ⟨fun q => hq46 q.symm, fun q => hq32 q.symm, ⟨fun q => h47_0 q.symm, fun q => h92_0 q.symm, fun q => h58_0 q.symm, hio_0⟩, ⟨fun q => h47_1 q.symm, fun q => h92_1 q.symm, fun q => h58_1 q.symm, hio_1⟩⟩]), rfl, K⟩) (by decide) (by decide)
def Q_rEmU_2 (Z : State) (xa xb : Addr) (xk : ClassId) (xc0 xc1 : Int32) (h0 : Heap) (v : Option Value) (h : Heap) (L : List Loc) : Prop := v = some (.int (0 : Int32)) ∧ h = h0 ∧ oKp h0 h [] L
theorem rEmU_2 (l : Launch) (Z : State) (a0 : Array Value) (hw : oHW a0 Z) (ws : List Jvm.Cond) (xa xb : Addr) (xk : ClassId) (xc0 xc1 : Int32) (h0 : Heap) (O0 : Ext Z.heap h0) (F_value_xa : Fld Z h0 xa Y0 "value" "[B" (.ref xb)) (V_xb : Arv Z h0 xb xk .byte (4 : Int32) [(iu0 xc0), (iu8 xc0), (iu0 xc1), (iu8 xc1)] (.int (0 : Int32))) :
    oCon l Z yy13 jdk_42_method_55_code 1 (some .boolean) ws ({ frames := 0, cells := 0, slots := 0, locals := 0 } : Room) #[(.ref xa)] h0 (Q_rEmU_2 Z xa xb xk xc0 xc1 h0) := by
  refine oCon.of (plainFor_of_name pn_2) ?_
  intro p e s m below meth c T X hx hby hml hown hnm hret hlk hZ e0
  have hml : c.maxLocals = 1 := hml
  have K : oKp h0 h0 [] [] := oKp.nil _ _
  refine oWk.cast (g' := (mkF m 0 #[rv xa] [])) (by first | rfl | (simp [entryFrame, mkF, argsToLocals, Value.category]; done)) ?_
  refine oWk.st (fun _ kt => zA X hx hby d5_0 rfl rfl rfl kt) ?_
  obtain ⟨T, X, e0, st⟩ := getF X hx hZ hown (host := "") (Or.inl (oW hw 22 rfl)) Via.refl e0 F_value_xa (g := (mkF m 1 #[rv xa] [(.ref xa)])) rfl rfl (hb hby d5_1)
  refine oWk.to (mkF m 13 #[rv xa] [(.int 0)]) (fun _ kt => st _ (oAl X hx hZ e0 V_xb hby d5_4 rfl rfl (zF X hx hby d5_5 rfl rfl ((if0 _ _).trans (feq (by decide)).2) (pc' := 12) rfl (zK X hx hby d5_12 rfl kt)))) ?_
  exact oRetZ X hx hlk hret (hb hby d5_13) (Or.inl rfl) (by rw [e0]; exact ⟨rfl, rfl, K⟩) (by decide) (by decide)
def Q_rLnU_2 (Z : State) (xa xb : Addr) (xk : ClassId) (xz xc0 xc1 : Int32) (h0 : Heap) (v : Option Value) (h : Heap) (L : List Loc) : Prop := v = some (.int (2 : Int32)) ∧ h = h0 ∧ oKp h0 h [] L
theorem rLnU_2 (l : Launch) (Z : State) (a0 : Array Value) (hw : oHW a0 Z) (ws : List Jvm.Cond) (xa xb : Addr) (xk : ClassId) (xz xc0 xc1 : Int32) (h0 : Heap) (O0 : Ext Z.heap h0) (S_COMPACT_STRINGS : Sta Z Z.heap Y0 Y6 "Z" (.int xz)) (hz : ¬ xz = (0 : Int32)) (E_xa : Exa Z h0 xa Y0) (F_coder_xa : Fld Z h0 xa Y0 "coder" "B" (.int (1 : Int32))) (F_value_xa : Fld Z h0 xa Y0 "value" "[B" (.ref xb)) (V_xb : Arv Z h0 xb xk .byte (4 : Int32) [(iu0 xc0), (iu8 xc0), (iu0 xc1), (iu8 xc1)] (.int (0 : Int32))) :
    oCon l Z yy16 jdk_42_method_54_code 1 (some .int) ws ({ frames := 1, cells := 0, slots := 0, locals := 13 } : Room) #[(.ref xa)] h0 (Q_rLnU_2 Z xa xb xk xz xc0 xc1 h0) := by
  refine oCon.of (plainFor_of_name pn_2) ?_
  intro p e s m below meth c T X hx hby hml hown hnm hret hlk hZ e0
  have hml : c.maxLocals = 1 := hml
  have K : oKp h0 h0 [] [] := oKp.nil _ _
  refine oWk.cast (g' := (mkF m 0 #[rv xa] [])) (by first | rfl | (simp [entryFrame, mkF, argsToLocals, Value.category]; done)) ?_
  refine oWk.st (fun _ kt => zA X hx hby d10_0 rfl rfl rfl kt) ?_
  obtain ⟨T, X, e0, st⟩ := getF X hx hZ hown (host := "") (Or.inl (oW hw 22 rfl)) Via.refl e0 F_value_xa (g := (mkF m 1 #[rv xa] [(.ref xa)])) rfl rfl (hb hby d10_1)
  refine oWk.st (fun _ kt => st _ (oAl X hx hZ e0 V_xb hby d10_4 rfl rfl (zA X hx hby d10_5 rfl rfl rfl kt))) ?_
  have Oh := K.old O0 all0
  obtain ⟨T, L3, X, e0, K, st⟩ := (cs11 hw).pure X hx hZ hown e0 K (A := [(.ref xa)]) ⟨rfl, _, _, rfl, E_xa⟩ (rCdr1 l Z a0 hw [] xa xz h0 Oh S_COMPACT_STRINGS hz F_coder_xa) (fun _ _ _ q => q) (W := 1) (by decide) hml (Ls := #[rv xa]) rfl (rest := [(.int (4 : Int32))]) rfl rfl hby d10_6
  refine oWk.to (mkF m 10 #[rv xa] [(.int 2)]) (fun _ kt => st _ (XS.ishr X.here hx rfl (hb hby d10_9) rfl kt)) ?_
  exact oRetI X hx hlk hret (hb hby d10_10) (by rw [e0]; exact ⟨rfl, rfl, K⟩) (by decide) (by decide)
def Q_rUL_2 (Z : State) (xb : Addr) (xk : ClassId) (xc0 xc1 : Int32) (h0 : Heap) (v : Option Value) (h : Heap) (L : List Loc) : Prop := v = some (.int (2 : Int32)) ∧ h = h0 ∧ oKp h0 h [] L
theorem rUL_2 (l : Launch) (Z : State) (a0 : Array Value) (hw : oHW a0 Z) (ws : List Jvm.Cond) (xb : Addr) (xk : ClassId) (xc0 xc1 : Int32) (h0 : Heap) (O0 : Ext Z.heap h0) (V_xb : Arv Z h0 xb xk .byte (4 : Int32) [(iu0 xc0), (iu8 xc0), (iu0 xc1), (iu8 xc1)] (.int (0 : Int32))) :
    oCon l Z yy22 jdk_52_method_6_code 1 (some .int) ws ({ frames := 0, cells := 0, slots := 0, locals := 0 } : Room) #[(.ref xb)] h0 (Q_rUL_2 Z xb xk xc0 xc1 h0) := by
  refine oCon.of (plainFor_of_name pn_3) ?_
  intro p e s m below meth c T X hx hby hml hown hnm hret hlk hZ e0
  have hml : c.maxLocals = 1 := hml
  have K : oKp h0 h0 [] [] := oKp.nil _ _
  refine oWk.cast (g' := (mkF m 0 #[rv xb] [])) (by first | rfl | (simp [entryFrame, mkF, argsToLocals, Value.category]; done)) ?_
  refine oWk.to (mkF m 4 #[rv xb] [(.int 2)]) (fun _ kt => zA X hx hby d26_0 rfl rfl rfl (oAl X hx hZ e0 V_xb hby d26_1 rfl rfl (zK X hx hby d26_2 rfl (XS.ishr X.here hx rfl (hb hby d26_3) rfl kt)))) ?_
  exact oRetI X hx hlk hret (hb hby d26_4) (by rw [e0]; exact ⟨rfl, rfl, K⟩) (by decide) (by decide)
def Q_rUCk_2_0 (Z : State) (xb : Addr) (xk : ClassId) (xfm : Value) (xc0 xc1 : Int32) (h0 : Heap) (v : Option Value) (h : Heap) (L : List Loc) : Prop := v = none ∧ h = h0 ∧ oKp h0 h [] L
theorem rUCk_2_0 (l : Launch) (Z : State) (a0 : Array Value) (hw : oHW a0 Z) (ws : List Jvm.Cond) (xb : Addr) (xk : ClassId) (xfm : Value) (xc0 xc1 : Int32) (h0 : Heap) (O0 : Ext Z.heap h0) (S_SIOOBE_FORMATTER : Sta Z Z.heap Y2 Y4 Y5 xfm) (hcat : xfm.category = 1) (V_xb : Arv Z h0 xb xk .byte (4 : Int32) [(iu0 xc0), (iu8 xc0), (iu0 xc1), (iu8 xc1)] (.int (0 : Int32))) :
    oCon l Z yy23 jdk_52_method_91_code 2 none ws ({ frames := 2, cells := 0, slots := 0, locals := 27 } : Room) #[(.int (0 : Int32)), (.ref xb)] h0 (Q_rUCk_2_0 Z xb xk xfm xc0 xc1 h0) := by
  refine oCon.of (plainFor_of_name pn_3) ?_
  intro p e s m below meth c T X hx hby hml hown hnm hret hlk hZ e0
  have hml : c.maxLocals = 2 := hml
  have K : oKp h0 h0 [] [] := oKp.nil _ _
  refine oWk.cast (g' := (mkF m 0 #[iv 0, rv xb] [])) (by first | rfl | (simp [entryFrame, mkF, argsToLocals, Value.category]; done)) ?_
  refine oWk.st (fun _ kt => zI X hx hby d25_0 rfl rfl (zA X hx hby d25_1 rfl rfl rfl kt)) ?_
  have Oh := K.old O0 all0
  obtain ⟨T, L2, X, e0, K, st⟩ := (cs19 hw).pure X hx hZ hown e0 K (A := [(.ref xb)]) rfl (rUL_2 l Z a0 hw [] xb xk xc0 xc1 h0 Oh V_xb) (fun _ _ _ q => q) (W := 1) (by decide) hml (Ls := #[iv 0, rv xb]) rfl (rest := [(.int (0 : Int32))]) rfl rfl hby d25_2
  refine oWk.st (fun _ kt => st _ kt) ?_
  obtain ⟨T, L4, X, e0, K, st⟩ := (cs20 hw).pure X hx hZ hown e0 K (A := [(.int (0 : Int32)), (.int (2 : Int32))]) rfl (rCkI l Z a0 hw [] (0 : Int32) (2 : Int32) xfm h0 Oh S_SIOOBE_FORMATTER hcat (by decide) (by decide)) (fun _ _ _ q => q) (W := 0) (by decide) hml (Ls := #[iv 0, rv xb]) rfl (rest := []) rfl rfl hby d25_5
  refine oWk.to (mkF m 8 #[iv 0, rv xb] []) (fun _ kt => st _ kt) ?_
  exact oRetV X hx hlk hret (hb hby d25_8) (by rw [e0]; exact ⟨rfl, rfl, K⟩) (by decide) (by decide)
def Q_rUC_2_0 (Z : State) (xb : Addr) (xk : ClassId) (xfm : Value) (xc0 xc1 : Int32) (h0 : Heap) (v : Option Value) (h : Heap) (L : List Loc) : Prop := v = some (.int xc0) ∧ h = h0 ∧ oKp h0 h [] L
theorem rUC_2_0 (l : Launch) (Z : State) (a0 : Array Value) (hw : oHW a0 Z) (ws : List Jvm.Cond) (xb : Addr) (xk : ClassId) (xfm : Value) (xc0 xc1 : Int32) (h0 : Heap) (O0 : Ext Z.heap h0) (S__assertionsDisabled : Sta Z Z.heap Y1 Y3 "Z" (.int (1 : Int32))) (S_HI_BYTE_SHIFT : Sta Z Z.heap Y1 "HI_BYTE_SHIFT" "I" (.int (0 : Int32))) (S_LO_BYTE_SHIFT : Sta Z Z.heap Y1 "LO_BYTE_SHIFT" "I" (.int (8 : Int32))) (S_SIOOBE_FORMATTER : Sta Z Z.heap Y2 Y4 Y5 xfm) (hcat : xfm.category = 1) (hr : 0 ≤ xc0.toInt ∧ xc0.toInt < 65536) (V_xb : Arv Z h0 xb xk .byte (4 : Int32) [(iu0 xc0), (iu8 xc0), (iu0 xc1), (iu8 xc1)] (.int (0 : Int32))) :
    oCon l Z yy24 jdk_52_method_83_code 2 (some .char) ws ({ frames := 3, cells := 0, slots := 0, locals := 40 } : Room) #[(.ref xb), (.int (0 : Int32))] h0 (Q_rUC_2_0 Z xb xk xfm xc0 xc1 h0) := by
  refine oCon.of (plainFor_of_name pn_3) ?_
  intro p e s m below meth c T X hx hby hml hown hnm hret hlk hZ e0
  have hml : c.maxLocals = 2 := hml
  have K : oKp h0 h0 [] [] := oKp.nil _ _
  refine oWk.cast (g' := (mkF m 0 #[rv xb, iv 0] [])) (by first | rfl | (simp [entryFrame, mkF, argsToLocals, Value.category]; done)) ?_
  refine oWk.st (fun _ kt => zI X hx hby d24_0 rfl rfl (zA X hx hby d24_1 rfl rfl rfl kt)) ?_
  have Oh := K.old O0 all0
  obtain ⟨T, L2, X, e0, K, st⟩ := (cs21 hw).pure X hx hZ hown e0 K (A := [(.int (0 : Int32)), (.ref xb)]) rfl (rUCk_2_0 l Z a0 hw [] xb xk xfm xc0 xc1 h0 Oh S_SIOOBE_FORMATTER hcat V_xb) (fun _ _ _ q => q) (W := 0) (by decide) hml (Ls := #[rv xb, iv 0]) rfl (rest := []) rfl rfl hby d24_2
  refine oWk.st (fun _ kt => st _ (zA X hx hby d24_5 rfl rfl rfl (zI X hx hby d24_6 rfl rfl kt))) ?_
  obtain ⟨T, L4, X, e0, K, st⟩ := (cs9 hw).pure X hx hZ hown e0 K (A := [(.ref xb), (.int (0 : Int32))]) rfl (rGC_2_0 l Z a0 hw [] xb xk xc0 xc1 h0 Oh S__assertionsDisabled S_HI_BYTE_SHIFT S_LO_BYTE_SHIFT hr V_xb) (fun _ _ _ q => q) (W := 0) (by decide) hml (Ls := #[rv xb, iv 0]) rfl (rest := []) rfl rfl hby d24_7
  refine oWk.to (mkF m 10 #[rv xb, iv 0] [(.int xc0)]) (fun _ kt => st _ kt) ?_
  exact oRetN X hx hlk hret (Or.inr (Or.inl rfl)) (show narrow .char (.int xc0) = .int xc0 from congrArg Value.int (oChrU hr)) (hb hby d24_10) (by rw [e0]; exact ⟨rfl, rfl, K⟩) (by decide) (by decide)
def Q_rCAU_2_0 (Z : State) (xa xb : Addr) (xk : ClassId) (xfm : Value) (xz xc0 xc1 : Int32) (h0 : Heap) (v : Option Value) (h : Heap) (L : List Loc) : Prop := v = some (.int xc0) ∧ h = h0 ∧ oKp h0 h [] L
theorem rCAU_2_0 (l : Launch) (Z : State) (a0 : Array Value) (hw : oHW a0 Z) (ws : List Jvm.Cond) (xa xb : Addr) (xk : ClassId) (xfm : Value) (xz xc0 xc1 : Int32) (h0 : Heap) (O0 : Ext Z.heap h0) (S_COMPACT_STRINGS : Sta Z Z.heap Y0 Y6 "Z" (.int xz)) (hz : ¬ xz = (0 : Int32)) (S__assertionsDisabled : Sta Z Z.heap Y1 Y3 "Z" (.int (1 : Int32))) (S_HI_BYTE_SHIFT : Sta Z Z.heap Y1 "HI_BYTE_SHIFT" "I" (.int (0 : Int32))) (S_LO_BYTE_SHIFT : Sta Z Z.heap Y1 "LO_BYTE_SHIFT" "I" (.int (8 : Int32))) (S_SIOOBE_FORMATTER : Sta Z Z.heap Y2 Y4 Y5 xfm) (hcat : xfm.category = 1) (hr : 0 ≤ xc0.toInt ∧ xc0.toInt < 65536) (E_xa : Exa Z h0 xa Y0) (F_coder_xa : Fld Z h0 xa Y0 "coder" "B" (.int (1 : Int32))) (F_value_xa : Fld Z h0 xa Y0 "value" "[B" (.ref xb)) (V_xb : Arv Z h0 xb xk .byte (4 : Int32) [(iu0 xc0), (iu8 xc0), (iu0 xc1), (iu8 xc1)] (.int (0 : Int32))) :
    oCon l Z yy21 jdk_42_method_56_code 2 (some .char) ws ({ frames := 4, cells := 0, slots := 0, locals := 53 } : Room) #[(.ref xa), (.int (0 : Int32))] h0 (Q_rCAU_2_0 Z xa xb xk xfm xz xc0 xc1 h0) := by
  refine oCon.of (plainFor_of_name pn_2) ?_
  intro p e s m below meth c T X hx hby hml hown hnm hret hlk hZ e0
  have hml : c.maxLocals = 2 := hml
  have K : oKp h0 h0 [] [] := oKp.nil _ _
  refine oWk.cast (g' := (mkF m 0 #[rv xa, iv 0] [])) (by first | rfl | (simp [entryFrame, mkF, argsToLocals, Value.category]; done)) ?_
  refine oWk.st (fun _ kt => zA X hx hby d12_0 rfl rfl rfl kt) ?_
  have Oh := K.old O0 all0
  obtain ⟨T, L2, X, e0, K, st⟩ := (cs14 hw).pure X hx hZ hown e0 K (A := [(.ref xa)]) ⟨rfl, _, _, rfl, E_xa⟩ (rIsL1 l Z a0 hw [] xa xz h0 Oh S_COMPACT_STRINGS hz F_coder_xa) (fun _ _ _ q => q) (W := 0) (by decide) hml (Ls := #[rv xa, iv 0]) rfl (rest := []) rfl rfl hby d12_1
  refine oWk.st (fun _ kt => st _ (zF X hx hby d12_4 rfl rfl ((if0 _ _).trans (teq (by decide)).1) (pc' := 16) rfl (zA X hx hby d12_16 rfl rfl rfl kt))) ?_
  obtain ⟨T, X, e0, st⟩ := getF X hx hZ hown (host := "") (Or.inl (oW hw 22 rfl)) Via.refl e0 F_value_xa (g := (mkF m 17 #[rv xa, iv 0] [(.ref xa)])) rfl rfl (hb hby d12_17)
  refine oWk.st (fun _ kt => st _ (zI X hx hby d12_20 rfl rfl kt)) ?_
  obtain ⟨T, L4, X, e0, K, st⟩ := (cs22 hw).pure X hx hZ hown e0 K (A := [(.ref xb), (.int (0 : Int32))]) rfl (rUC_2_0 l Z a0 hw [] xb xk xfm xc0 xc1 h0 Oh S__assertionsDisabled S_HI_BYTE_SHIFT S_LO_BYTE_SHIFT S_SIOOBE_FORMATTER hcat hr V_xb) (fun _ _ _ q => q) (W := 0) (by decide) hml (Ls := #[rv xa, iv 0]) rfl (rest := []) rfl rfl hby d12_21
  refine oWk.to (mkF m 24 #[rv xa, iv 0] [(.int xc0)]) (fun _ kt => st _ kt) ?_
  exact oRetN X hx hlk hret (Or.inr (Or.inl rfl)) (show narrow .char (.int xc0) = .int xc0 from congrArg Value.int (oChrU hr)) (hb hby d12_24) (by rw [e0]; exact ⟨rfl, rfl, K⟩) (by decide) (by decide)
def Q_rUCk_2_1 (Z : State) (xb : Addr) (xk : ClassId) (xfm : Value) (xc0 xc1 : Int32) (h0 : Heap) (v : Option Value) (h : Heap) (L : List Loc) : Prop := v = none ∧ h = h0 ∧ oKp h0 h [] L
theorem rUCk_2_1 (l : Launch) (Z : State) (a0 : Array Value) (hw : oHW a0 Z) (ws : List Jvm.Cond) (xb : Addr) (xk : ClassId) (xfm : Value) (xc0 xc1 : Int32) (h0 : Heap) (O0 : Ext Z.heap h0) (S_SIOOBE_FORMATTER : Sta Z Z.heap Y2 Y4 Y5 xfm) (hcat : xfm.category = 1) (V_xb : Arv Z h0 xb xk .byte (4 : Int32) [(iu0 xc0), (iu8 xc0), (iu0 xc1), (iu8 xc1)] (.int (0 : Int32))) :
    oCon l Z yy23 jdk_52_method_91_code 2 none ws ({ frames := 2, cells := 0, slots := 0, locals := 27 } : Room) #[(.int (1 : Int32)), (.ref xb)] h0 (Q_rUCk_2_1 Z xb xk xfm xc0 xc1 h0) := by
  refine oCon.of (plainFor_of_name pn_3) ?_
  intro p e s m below meth c T X hx hby hml hown hnm hret hlk hZ e0
  have hml : c.maxLocals = 2 := hml
  have K : oKp h0 h0 [] [] := oKp.nil _ _
  refine oWk.cast (g' := (mkF m 0 #[iv 1, rv xb] [])) (by first | rfl | (simp [entryFrame, mkF, argsToLocals, Value.category]; done)) ?_
  refine oWk.st (fun _ kt => zI X hx hby d25_0 rfl rfl (zA X hx hby d25_1 rfl rfl rfl kt)) ?_
  have Oh := K.old O0 all0
  obtain ⟨T, L2, X, e0, K, st⟩ := (cs19 hw).pure X hx hZ hown e0 K (A := [(.ref xb)]) rfl (rUL_2 l Z a0 hw [] xb xk xc0 xc1 h0 Oh V_xb) (fun _ _ _ q => q) (W := 1) (by decide) hml (Ls := #[iv 1, rv xb]) rfl (rest := [(.int (1 : Int32))]) rfl rfl hby d25_2
  refine oWk.st (fun _ kt => st _ kt) ?_
  obtain ⟨T, L4, X, e0, K, st⟩ := (cs20 hw).pure X hx hZ hown e0 K (A := [(.int (1 : Int32)), (.int (2 : Int32))]) rfl (rCkI l Z a0 hw [] (1 : Int32) (2 : Int32) xfm h0 Oh S_SIOOBE_FORMATTER hcat (by decide) (by decide)) (fun _ _ _ q => q) (W := 0) (by decide) hml (Ls := #[iv 1, rv xb]) rfl (rest := []) rfl rfl hby d25_5
  refine oWk.to (mkF m 8 #[iv 1, rv xb] []) (fun _ kt => st _ kt) ?_
  exact oRetV X hx hlk hret (hb hby d25_8) (by rw [e0]; exact ⟨rfl, rfl, K⟩) (by decide) (by decide)
def Q_rUC_2_1 (Z : State) (xb : Addr) (xk : ClassId) (xfm : Value) (xc0 xc1 : Int32) (h0 : Heap) (v : Option Value) (h : Heap) (L : List Loc) : Prop := v = some (.int xc1) ∧ h = h0 ∧ oKp h0 h [] L
theorem rUC_2_1 (l : Launch) (Z : State) (a0 : Array Value) (hw : oHW a0 Z) (ws : List Jvm.Cond) (xb : Addr) (xk : ClassId) (xfm : Value) (xc0 xc1 : Int32) (h0 : Heap) (O0 : Ext Z.heap h0) (S__assertionsDisabled : Sta Z Z.heap Y1 Y3 "Z" (.int (1 : Int32))) (S_HI_BYTE_SHIFT : Sta Z Z.heap Y1 "HI_BYTE_SHIFT" "I" (.int (0 : Int32))) (S_LO_BYTE_SHIFT : Sta Z Z.heap Y1 "LO_BYTE_SHIFT" "I" (.int (8 : Int32))) (S_SIOOBE_FORMATTER : Sta Z Z.heap Y2 Y4 Y5 xfm) (hcat : xfm.category = 1) (hr : 0 ≤ xc1.toInt ∧ xc1.toInt < 65536) (V_xb : Arv Z h0 xb xk .byte (4 : Int32) [(iu0 xc0), (iu8 xc0), (iu0 xc1), (iu8 xc1)] (.int (0 : Int32))) :
    oCon l Z yy24 jdk_52_method_83_code 2 (some .char) ws ({ frames := 3, cells := 0, slots := 0, locals := 40 } : Room) #[(.ref xb), (.int (1 : Int32))] h0 (Q_rUC_2_1 Z xb xk xfm xc0 xc1 h0) := by
  refine oCon.of (plainFor_of_name pn_3) ?_
  intro p e s m below meth c T X hx hby hml hown hnm hret hlk hZ e0
  have hml : c.maxLocals = 2 := hml
  have K : oKp h0 h0 [] [] := oKp.nil _ _
  refine oWk.cast (g' := (mkF m 0 #[rv xb, iv 1] [])) (by first | rfl | (simp [entryFrame, mkF, argsToLocals, Value.category]; done)) ?_
  refine oWk.st (fun _ kt => zI X hx hby d24_0 rfl rfl (zA X hx hby d24_1 rfl rfl rfl kt)) ?_
  have Oh := K.old O0 all0
  obtain ⟨T, L2, X, e0, K, st⟩ := (cs21 hw).pure X hx hZ hown e0 K (A := [(.int (1 : Int32)), (.ref xb)]) rfl (rUCk_2_1 l Z a0 hw [] xb xk xfm xc0 xc1 h0 Oh S_SIOOBE_FORMATTER hcat V_xb) (fun _ _ _ q => q) (W := 0) (by decide) hml (Ls := #[rv xb, iv 1]) rfl (rest := []) rfl rfl hby d24_2
  refine oWk.st (fun _ kt => st _ (zA X hx hby d24_5 rfl rfl rfl (zI X hx hby d24_6 rfl rfl kt))) ?_
  obtain ⟨T, L4, X, e0, K, st⟩ := (cs9 hw).pure X hx hZ hown e0 K (A := [(.ref xb), (.int (1 : Int32))]) rfl (rGC_2_1 l Z a0 hw [] xb xk xc0 xc1 h0 Oh S__assertionsDisabled S_HI_BYTE_SHIFT S_LO_BYTE_SHIFT hr V_xb) (fun _ _ _ q => q) (W := 0) (by decide) hml (Ls := #[rv xb, iv 1]) rfl (rest := []) rfl rfl hby d24_7
  refine oWk.to (mkF m 10 #[rv xb, iv 1] [(.int xc1)]) (fun _ kt => st _ kt) ?_
  exact oRetN X hx hlk hret (Or.inr (Or.inl rfl)) (show narrow .char (.int xc1) = .int xc1 from congrArg Value.int (oChrU hr)) (hb hby d24_10) (by rw [e0]; exact ⟨rfl, rfl, K⟩) (by decide) (by decide)
def Q_rCAU_2_1 (Z : State) (xa xb : Addr) (xk : ClassId) (xfm : Value) (xz xc0 xc1 : Int32) (h0 : Heap) (v : Option Value) (h : Heap) (L : List Loc) : Prop := v = some (.int xc1) ∧ h = h0 ∧ oKp h0 h [] L
theorem rCAU_2_1 (l : Launch) (Z : State) (a0 : Array Value) (hw : oHW a0 Z) (ws : List Jvm.Cond) (xa xb : Addr) (xk : ClassId) (xfm : Value) (xz xc0 xc1 : Int32) (h0 : Heap) (O0 : Ext Z.heap h0) (S_COMPACT_STRINGS : Sta Z Z.heap Y0 Y6 "Z" (.int xz)) (hz : ¬ xz = (0 : Int32)) (S__assertionsDisabled : Sta Z Z.heap Y1 Y3 "Z" (.int (1 : Int32))) (S_HI_BYTE_SHIFT : Sta Z Z.heap Y1 "HI_BYTE_SHIFT" "I" (.int (0 : Int32))) (S_LO_BYTE_SHIFT : Sta Z Z.heap Y1 "LO_BYTE_SHIFT" "I" (.int (8 : Int32))) (S_SIOOBE_FORMATTER : Sta Z Z.heap Y2 Y4 Y5 xfm) (hcat : xfm.category = 1) (hr : 0 ≤ xc1.toInt ∧ xc1.toInt < 65536) (E_xa : Exa Z h0 xa Y0) (F_coder_xa : Fld Z h0 xa Y0 "coder" "B" (.int (1 : Int32))) (F_value_xa : Fld Z h0 xa Y0 "value" "[B" (.ref xb)) (V_xb : Arv Z h0 xb xk .byte (4 : Int32) [(iu0 xc0), (iu8 xc0), (iu0 xc1), (iu8 xc1)] (.int (0 : Int32))) :
    oCon l Z yy21 jdk_42_method_56_code 2 (some .char) ws ({ frames := 4, cells := 0, slots := 0, locals := 53 } : Room) #[(.ref xa), (.int (1 : Int32))] h0 (Q_rCAU_2_1 Z xa xb xk xfm xz xc0 xc1 h0) := by
  refine oCon.of (plainFor_of_name pn_2) ?_
  intro p e s m below meth c T X hx hby hml hown hnm hret hlk hZ e0
  have hml : c.maxLocals = 2 := hml
  have K : oKp h0 h0 [] [] := oKp.nil _ _
  refine oWk.cast (g' := (mkF m 0 #[rv xa, iv 1] [])) (by first | rfl | (simp [entryFrame, mkF, argsToLocals, Value.category]; done)) ?_
  refine oWk.st (fun _ kt => zA X hx hby d12_0 rfl rfl rfl kt) ?_
  have Oh := K.old O0 all0
  obtain ⟨T, L2, X, e0, K, st⟩ := (cs14 hw).pure X hx hZ hown e0 K (A := [(.ref xa)]) ⟨rfl, _, _, rfl, E_xa⟩ (rIsL1 l Z a0 hw [] xa xz h0 Oh S_COMPACT_STRINGS hz F_coder_xa) (fun _ _ _ q => q) (W := 0) (by decide) hml (Ls := #[rv xa, iv 1]) rfl (rest := []) rfl rfl hby d12_1
  refine oWk.st (fun _ kt => st _ (zF X hx hby d12_4 rfl rfl ((if0 _ _).trans (teq (by decide)).1) (pc' := 16) rfl (zA X hx hby d12_16 rfl rfl rfl kt))) ?_
  obtain ⟨T, X, e0, st⟩ := getF X hx hZ hown (host := "") (Or.inl (oW hw 22 rfl)) Via.refl e0 F_value_xa (g := (mkF m 17 #[rv xa, iv 1] [(.ref xa)])) rfl rfl (hb hby d12_17)
  refine oWk.st (fun _ kt => st _ (zI X hx hby d12_20 rfl rfl kt)) ?_
  obtain ⟨T, L4, X, e0, K, st⟩ := (cs22 hw).pure X hx hZ hown e0 K (A := [(.ref xb), (.int (1 : Int32))]) rfl (rUC_2_1 l Z a0 hw [] xb xk xfm xc0 xc1 h0 Oh S__assertionsDisabled S_HI_BYTE_SHIFT S_LO_BYTE_SHIFT S_SIOOBE_FORMATTER hcat hr V_xb) (fun _ _ _ q => q) (W := 0) (by decide) hml (Ls := #[rv xa, iv 1]) rfl (rest := []) rfl rfl hby d12_21
  refine oWk.to (mkF m 24 #[rv xa, iv 1] [(.int xc1)]) (fun _ kt => st _ kt) ?_
  exact oRetN X hx hlk hret (Or.inr (Or.inl rfl)) (show narrow .char (.int xc1) = .int xc1 from congrArg Value.int (oChrU hr)) (hb hby d12_24) (by rw [e0]; exact ⟨rfl, rfl, K⟩) (by decide) (by decide)
def Q_rSSU_2 (Z : State) (xa xb : Addr) (xk : ClassId) (xfm : Value) (xz xc0 xc1 : Int32) (h0 : Heap) (v : Option Value) (h : Heap) (L : List Loc) : Prop := v = some (.int (oBi (¬ xc1 = (46 : Int32) ∧ ¬ xc1 = (32 : Int32) ∧ oPl xc0 ∧ oPl xc1))) ∧ h = h0 ∧ oKp h0 h [] L
theorem rSSU_2 (l : Launch) (Z : State) (a0 : Array Value) (hw : oHW a0 Z) (ws : List Jvm.Cond) (xa xb : Addr) (xk : ClassId) (xfm : Value) (xz xc0 xc1 : Int32) (h0 : Heap) (O0 : Ext Z.heap h0) (S_COMPACT_STRINGS : Sta Z Z.heap Y0 Y6 "Z" (.int xz)) (hz : ¬ xz = (0 : Int32)) (S__assertionsDisabled : Sta Z Z.heap Y1 Y3 "Z" (.int (1 : Int32))) (S_HI_BYTE_SHIFT : Sta Z Z.heap Y1 "HI_BYTE_SHIFT" "I" (.int (0 : Int32))) (S_LO_BYTE_SHIFT : Sta Z Z.heap Y1 "LO_BYTE_SHIFT" "I" (.int (8 : Int32))) (S_SIOOBE_FORMATTER : Sta Z Z.heap Y2 Y4 Y5 xfm) (hcat : xfm.category = 1) (E_xa : Exa Z h0 xa Y0) (F_coder_xa : Fld Z h0 xa Y0 "coder" "B" (.int (1 : Int32))) (F_value_xa : Fld Z h0 xa Y0 "value" "[B" (.ref xb)) (V_xb : Arv Z h0 xb xk .byte (4 : Int32) [(iu0 xc0), (iu8 xc0), (iu0 xc1), (iu8 xc1)] (.int (0 : Int32))) (hr0 : 0 ≤ xc0.toInt ∧ xc0.toInt < 65536) (hr1 : 0 ≤ xc1.toInt ∧ xc1.toInt < 65536) :
    oCon l Z yy14 prog_11_method_4_code 4 (some .boolean) ws ({ frames := 5, cells := 0, slots := 0, locals := 66 } : Room) #[(.ref xa)] h0 (Q_rSSU_2 Z xa xb xk xfm xz xc0 xc1 h0) := by
  refine oCon.of (plainFor_of_name pn_4) ?_
  intro p e s m below meth c T X hx hby hml hown hnm hret hlk hZ e0
  have hml : c.maxLocals = 4 := hml
  have K : oKp h0 h0 [] [] := oKp.nil _ _
  refine oWk.cast (g' := (mkF m 0 #[rv xa, uu, uu, uu] [])) (by first | rfl | (simp [entryFrame, mkF, argsToLocals, Value.category]; done)) ?_
  refine oWk.st (fun _ kt => zA X hx hby d4_0 rfl rfl rfl kt) ?_
  have Oh := K.old O0 all0
  obtain ⟨T, L2, X, e0, K, st⟩ := (cs10 hw).pure X hx hZ hown e0 K (A := [(.ref xa)]) ⟨rfl, _, _, rfl, E_xa⟩ (rEmU_2 l Z a0 hw [] xa xb xk xc0 xc1 h0 Oh F_value_xa V_xb) (fun _ _ _ q => q) (W := 0) (by decide) hml (Ls := #[rv xa, uu, uu, uu]) rfl (rest := []) rfl rfl hby d4_1
  refine oWk.st (fun _ kt => st _ (zF X hx hby d4_4 rfl rfl ((if0 _ _).trans (teq (by decide)).1) (pc' := 9) rfl (zA X hx hby d4_9 rfl rfl rfl (zA X hx hby d4_10 rfl rfl rfl kt)))) ?_
  obtain ⟨T, L4, X, e0, K, st⟩ := (cs16 hw).pure X hx hZ hown e0 K (A := [(.ref xa)]) ⟨rfl, _, _, rfl, E_xa⟩ (rLnU_2 l Z a0 hw [] xa xb xk xz xc0 xc1 h0 Oh S_COMPACT_STRINGS hz E_xa F_coder_xa F_value_xa V_xb) (fun _ _ _ q => q) (W := 1) (by decide) hml (Ls := #[rv xa, uu, uu, uu]) rfl (rest := [(.ref xa)]) rfl rfl hby d4_11
  refine oWk.st (fun _ kt => st _ (zK X hx hby d4_14 rfl (XS.isub X.here hx rfl (hb hby d4_15) rfl kt))) ?_
  obtain ⟨T, L6, X, e0, K, st⟩ := (cs17 hw).pure X hx hZ hown e0 K (A := [(.ref xa), (.int (1 : Int32))]) ⟨rfl, _, _, rfl, E_xa⟩ (rCAU_2_1 l Z a0 hw [] xa xb xk xfm xz xc0 xc1 h0 Oh S_COMPACT_STRINGS hz S__assertionsDisabled S_HI_BYTE_SHIFT S_LO_BYTE_SHIFT S_SIOOBE_FORMATTER hcat hr1 E_xa F_coder_xa F_value_xa V_xb) (fun _ _ _ q => q) (W := 0) (by decide) hml (Ls := #[rv xa, uu, uu, uu]) rfl (rest := []) rfl rfl hby d4_16
  refine oWk.to (mkF m 23 #[rv xa, iv xc1, uu, uu] [(.int xc1), (.int 46)]) (fun _ kt => st _ (zSn X hx hby d4_19 rfl rfl (l' := #[rv xa, iv xc1, uu, uu]) rfl (zL X hx hby d4_20 rfl (zI X hx hby d4_22 rfl rfl kt)))) ?_
  by_cases hq46 : (46 : Int32) = xc1
  · refine oWk.to (mkF m 32 #[rv xa, iv xc1, uu, uu] []) (fun _ kt => zY X hx hby d4_23 rfl rfl (teq hq46).1 (pc' := 32) rfl kt) ?_
    refine oWk.to (mkF m 33 #[rv xa, iv xc1, uu, uu] [(.int 0)]) (fun _ kt => zK X hx hby d4_32 rfl kt) ?_
    exact oRetZ X hx hlk hret (hb hby d4_33) (Or.inl rfl) (by rw [e0]; exact ⟨(by rw [oBi_f (fun q => q.1 hq46.symm)]), rfl, K⟩) (by decide) (by decide)
  · refine oWk.to (mkF m 26 #[rv xa, iv xc1, uu, uu] []) (fun _ kt => zN X hx hby d4_23 rfl rfl (feq hq46).1 kt) ?_
    refine oWk.to (mkF m 29 #[rv xa, iv xc1, uu, uu] [(.int xc1), (.int 32)]) (fun _ kt => zL X hx hby d4_26 rfl (zI X hx hby d4_28 rfl rfl kt)) ?_
    by_cases hq32 : (32 : Int32) = xc1
    · refine oWk.to (mkF m 32 #[rv xa, iv xc1, uu, uu] []) (fun _ kt => zN X hx hby d4_29 rfl rfl (teq hq32).2 kt) ?_
      refine oWk.to (mkF m 33 #[rv xa, iv xc1, uu, uu] [(.int 0)]) (fun _ kt => zK X hx hby d4_32 rfl kt) ?_
      exact oRetZ X hx hlk hret (hb hby d4_33) (Or.inl rfl) (by rw [e0]; exact ⟨(by rw [oBi_f (fun q => q.2.1 hq32.symm)]), rfl, K⟩) (by decide) (by decide)
    · refine oWk.to (mkF m 34 #[rv xa, iv xc1, uu, uu] []) (fun _ kt => zY X hx hby d4_29 rfl rfl (feq hq32).2 (pc' := 34) rfl kt) ?_
      refine oWk.st (fun _ kt => zK X hx hby d4_34 rfl (zSn X hx hby d4_35 rfl rfl (l' := #[rv xa, iv xc1, iv 0, uu]) rfl (zI X hx hby d4_36 rfl rfl (zA X hx hby d4_37 rfl rfl rfl kt)))) ?_
      obtain ⟨T, L8, X, e0, K, st⟩ := (cs16 hw).pure X hx hZ hown e0 K (A := [(.ref xa)]) ⟨rfl, _, _, rfl, E_xa⟩ (rLnU_2 l Z a0 hw [] xa xb xk xz xc0 xc1 h0 Oh S_COMPACT_STRINGS hz E_xa F_coder_xa F_value_xa V_xb) (fun _ _ _ q => q) (W := 1) (by decide) hml (Ls := #[rv xa, iv xc1, iv 0, uu]) rfl (rest := [(.int (0 : Int32))]) rfl rfl hby d4_38
      refine oWk.st (fun _ kt => st _ (zN X hx hby d4_41 rfl rfl (tlt (by decide)).2.1 (zA X hx hby d4_44 rfl rfl rfl (zI X hx hby d4_45 rfl rfl kt)))) ?_
      obtain ⟨T, L10, X, e0, K, st⟩ := (cs17 hw).pure X hx hZ hown e0 K (A := [(.ref xa), (.int (0 : Int32))]) ⟨rfl, _, _, rfl, E_xa⟩ (rCAU_2_0 l Z a0 hw [] xa xb xk xfm xz xc0 xc1 h0 Oh S_COMPACT_STRINGS hz S__assertionsDisabled S_HI_BYTE_SHIFT S_LO_BYTE_SHIFT S_SIOOBE_FORMATTER hcat hr0 E_xa F_coder_xa F_value_xa V_xb) (fun _ _ _ q => q) (W := 0) (by decide) hml (Ls := #[rv xa, iv xc1, iv 0, uu]) rfl (rest := []) rfl rfl hby d4_46
      refine oWk.to (mkF m 53 #[rv xa, iv xc1, iv 0, iv xc0] [(.int xc0), (.int 47)]) (fun _ kt => st _ (zSn X hx hby d4_49 rfl rfl (l' := #[rv xa, iv xc1, iv 0, iv xc0]) rfl (zL X hx hby d4_50 rfl (zI X hx hby d4_52 rfl rfl kt)))) ?_
      by_cases h47_0 : (47 : Int32) = xc0
      · refine oWk.to (mkF m 75 #[rv xa, iv xc1, iv 0, iv xc0] []) (fun _ kt => zY X hx hby d4_53 rfl rfl (teq h47_0).1 (pc' := 75) rfl kt) ?_
        refine oWk.to (mkF m 76 #[rv xa, iv xc1, iv 0, iv xc0] [(.int 0)]) (fun _ kt => zK X hx hby d4_75 rfl kt) ?_
        exact oRetZ X hx hlk hret (hb hby d4_76) (Or.inl rfl) (by rw [e0]; exact ⟨(by rw [oBi_f (fun q => q.2.2.1.1 h47_0.symm)]), rfl, K⟩) (by decide) (by decide)
      · refine oWk.to (mkF m 56 #[rv xa, iv xc1, iv 0, iv xc0] []) (fun _ kt => zN X hx hby d4_53 rfl rfl (feq h47_0).1 kt) ?_
        refine oWk.to (mkF m 59 #[rv xa, iv xc1, iv 0, iv xc0] [(.int xc0), (.int 92)]) (fun _ kt => zL X hx hby d4_56 rfl (zI X hx hby d4_58 rfl rfl kt)) ?_
        by_cases h92_0 : (92 : Int32) = xc0
        · refine oWk.to (mkF m 75 #[rv xa, iv xc1, iv 0, iv xc0] []) (fun _ kt => zY X hx hby d4_59 rfl rfl (teq h92_0).1 (pc' := 75) rfl kt) ?_
          refine oWk.to (mkF m 76 #[rv xa, iv xc1, iv 0, iv xc0] [(.int 0)]) (fun _ kt => zK X hx hby d4_75 rfl kt) ?_
          exact oRetZ X hx hlk hret (hb hby d4_76) (Or.inl rfl) (by rw [e0]; exact ⟨(by rw [oBi_f (fun q => q.2.2.1.2.1 h92_0.symm)]), rfl, K⟩) (by decide) (by decide)
        · refine oWk.to (mkF m 62 #[rv xa, iv xc1, iv 0, iv xc0] []) (fun _ kt => zN X hx hby d4_59 rfl rfl (feq h92_0).1 kt) ?_
          refine oWk.to (mkF m 65 #[rv xa, iv xc1, iv 0, iv xc0] [(.int xc0), (.int 58)]) (fun _ kt => zL X hx hby d4_62 rfl (zI X hx hby d4_64 rfl rfl kt)) ?_
          by_cases h58_0 : (58 : Int32) = xc0
          · refine oWk.to (mkF m 75 #[rv xa, iv xc1, iv 0, iv xc0] []) (fun _ kt => zY X hx hby d4_65 rfl rfl (teq h58_0).1 (pc' := 75) rfl kt) ?_
            refine oWk.to (mkF m 76 #[rv xa, iv xc1, iv 0, iv xc0] [(.int 0)]) (fun _ kt => zK X hx hby d4_75 rfl kt) ?_
            exact oRetZ X hx hlk hret (hb hby d4_76) (Or.inl rfl) (by rw [e0]; exact ⟨(by rw [oBi_f (fun q => q.2.2.1.2.2.1 h58_0.symm)]), rfl, K⟩) (by decide) (by decide)
          · refine oWk.to (mkF m 68 #[rv xa, iv xc1, iv 0, iv xc0] []) (fun _ kt => zN X hx hby d4_65 rfl rfl (feq h58_0).1 kt) ?_
            refine oWk.st (fun _ kt => zI X hx hby d4_68 rfl rfl kt) ?_
            obtain ⟨T, L12, X, e0, K, st⟩ := (cs18 hw).pure X hx hZ hown e0 K (A := [(.int xc0)]) rfl (rIso l Z a0 hw [] xc0 h0 Oh hr0) (fun _ _ _ q => q) (W := 0) (by decide) hml (Ls := #[rv xa, iv xc1, iv 0, iv xc0]) rfl (rest := []) rfl rfl hby d4_69
            refine oWk.to (mkF m 72 #[rv xa, iv xc1, iv 0, iv xc0] [(.int (oBi (oIso xc0)))]) (fun _ kt => st _ kt) ?_
            by_cases hio_0 : oIso xc0
            · refine oWk.to (mkF m 75 #[rv xa, iv xc1, iv 0, iv xc0] []) (fun _ kt => zH X hx hby d4_72 rfl rfl ((if0 _ _).trans (feq (oBi_ne hio_0)).1) kt) ?_
              refine oWk.to (mkF m 76 #[rv xa, iv xc1, iv 0, iv xc0] [(.int 0)]) (fun _ kt => zK X hx hby d4_75 rfl kt) ?_
              exact oRetZ X hx hlk hret (hb hby d4_76) (Or.inl rfl) (by rw [e0]; exact ⟨(by rw [oBi_f (fun q => q.2.2.1.2.2.2 hio_0)]), rfl, K⟩) (by decide) (by decide)
            · refine oWk.to (mkF m 77 #[rv xa, iv xc1, iv 0, iv xc0] []) (fun _ kt => zF X hx hby d4_72 rfl rfl ((if0 _ _).trans (teq (oBi_f hio_0)).1) (pc' := 77) rfl kt) ?_
              refine oWk.st (fun _ kt => zC X hx hby d4_77 rfl rfl (l' := #[rv xa, iv xc1, iv ((0 : Int32) + (1 : Int32)), iv xc0]) rfl (zG X hx hby d4_80 rfl (pc' := 36) rfl (zI X hx hby d4_36 rfl rfl (zA X hx hby d4_37 rfl rfl rfl kt)))) ?_
              obtain ⟨T, L14, X, e0, K, st⟩ := (cs16 hw).pure X hx hZ hown e0 K (A := [(.ref xa)]) ⟨rfl, _, _, rfl, E_xa⟩ (rLnU_2 l Z a0 hw [] xa xb xk xz xc0 xc1 h0 Oh S_COMPACT_STRINGS hz E_xa F_coder_xa F_value_xa V_xb) (fun _ _ _ q => q) (W := 1) (by decide) hml (Ls := #[rv xa, iv xc1, iv 1, iv xc0]) rfl (rest := [(.int (1 : Int32))]) rfl rfl hby d4_38
              refine oWk.st (fun _ kt => st _ (zN X hx hby d4_41 rfl rfl (tlt (by decide)).2.1 (zA X hx hby d4_44 rfl rfl rfl (zI X hx hby d4_45 rfl rfl kt)))) ?_
              obtain ⟨T, L16, X, e0, K, st⟩ := (cs17 hw).pure X hx hZ hown e0 K (A := [(.ref xa), (.int (1 : Int32))]) ⟨rfl, _, _, rfl, E_xa⟩ (rCAU_2_1 l Z a0 hw [] xa xb xk xfm xz xc0 xc1 h0 Oh S_COMPACT_STRINGS hz S__assertionsDisabled S_HI_BYTE_SHIFT S_LO_BYTE_SHIFT S_SIOOBE_FORMATTER hcat hr1 E_xa F_coder_xa F_value_xa V_xb) (fun _ _ _ q => q) (W := 0) (by decide) hml (Ls := #[rv xa, iv xc1, iv 1, iv xc0]) rfl (rest := []) rfl rfl hby d4_46
              refine oWk.to (mkF m 53 #[rv xa, iv xc1, iv 1, iv xc1] [(.int xc1), (.int 47)]) (fun _ kt => st _ (zSn X hx hby d4_49 rfl rfl (l' := #[rv xa, iv xc1, iv 1, iv xc1]) rfl (zL X hx hby d4_50 rfl (zI X hx hby d4_52 rfl rfl kt)))) ?_
              by_cases h47_1 : (47 : Int32) = xc1
              · refine oWk.to (mkF m 75 #[rv xa, iv xc1, iv 1, iv xc1] []) (fun _ kt => zY X hx hby d4_53 rfl rfl (teq h47_1).1 (pc' := 75) rfl kt) ?_
                refine oWk.to (mkF m 76 #[rv xa, iv xc1, iv 1, iv xc1] [(.int 0)]) (fun _ kt => zK X hx hby d4_75 rfl kt) ?_
                exact oRetZ X hx hlk hret (hb hby d4_76) (Or.inl rfl) (by rw [e0]; exact ⟨(by rw [oBi_f (fun q => q.2.2.2.1 h47_1.symm)]), rfl, K⟩) (by decide) (by decide)
              · refine oWk.to (mkF m 56 #[rv xa, iv xc1, iv 1, iv xc1] []) (fun _ kt => zN X hx hby d4_53 rfl rfl (feq h47_1).1 kt) ?_
                refine oWk.to (mkF m 59 #[rv xa, iv xc1, iv 1, iv xc1] [(.int xc1), (.int 92)]) (fun _ kt => zL X hx hby d4_56 rfl (zI X hx hby d4_58 rfl rfl kt)) ?_
                by_cases h92_1 : (92 : Int32) = xc1
                · refine oWk.to (mkF m 75 #[rv xa, iv xc1, iv 1, iv xc1] []) (fun _ kt => zY X hx hby d4_59 rfl rfl (teq h92_1).1 (pc' := 75) rfl kt) ?_
                  refine oWk.to (mkF m 76 #[rv xa, iv xc1, iv 1, iv xc1] [(.int 0)]) (fun _ kt => zK X hx hby d4_75 rfl kt) ?_
                  exact oRetZ X hx hlk hret (hb hby d4_76) (Or.inl rfl) (by rw [e0]; exact ⟨(by rw [oBi_f (fun q => q.2.2.2.2.1 h92_1.symm)]), rfl, K⟩) (by decide) (by decide)
                · refine oWk.to (mkF m 62 #[rv xa, iv xc1, iv 1, iv xc1] []) (fun _ kt => zN X hx hby d4_59 rfl rfl (feq h92_1).1 kt) ?_
                  refine oWk.to (mkF m 65 #[rv xa, iv xc1, iv 1, iv xc1] [(.int xc1), (.int 58)]) (fun _ kt => zL X hx hby d4_62 rfl (zI X hx hby d4_64 rfl rfl kt)) ?_
                  by_cases h58_1 : (58 : Int32) = xc1
                  · refine oWk.to (mkF m 75 #[rv xa, iv xc1, iv 1, iv xc1] []) (fun _ kt => zY X hx hby d4_65 rfl rfl (teq h58_1).1 (pc' := 75) rfl kt) ?_
                    refine oWk.to (mkF m 76 #[rv xa, iv xc1, iv 1, iv xc1] [(.int 0)]) (fun _ kt => zK X hx hby d4_75 rfl kt) ?_
                    exact oRetZ X hx hlk hret (hb hby d4_76) (Or.inl rfl) (by rw [e0]; exact ⟨(by rw [oBi_f (fun q => q.2.2.2.2.2.1 h58_1.symm)]), rfl, K⟩) (by decide) (by decide)
                  · refine oWk.to (mkF m 68 #[rv xa, iv xc1, iv 1, iv xc1] []) (fun _ kt => zN X hx hby d4_65 rfl rfl (feq h58_1).1 kt) ?_
                    refine oWk.st (fun _ kt => zI X hx hby d4_68 rfl rfl kt) ?_
                    obtain ⟨T, L18, X, e0, K, st⟩ := (cs18 hw).pure X hx hZ hown e0 K (A := [(.int xc1)]) rfl (rIso l Z a0 hw [] xc1 h0 Oh hr1) (fun _ _ _ q => q) (W := 0) (by decide) hml (Ls := #[rv xa, iv xc1, iv 1, iv xc1]) rfl (rest := []) rfl rfl hby d4_69
                    refine oWk.to (mkF m 72 #[rv xa, iv xc1, iv 1, iv xc1] [(.int (oBi (oIso xc1)))]) (fun _ kt => st _ kt) ?_
                    by_cases hio_1 : oIso xc1
                    · refine oWk.to (mkF m 75 #[rv xa, iv xc1, iv 1, iv xc1] []) (fun _ kt => zH X hx hby d4_72 rfl rfl ((if0 _ _).trans (feq (oBi_ne hio_1)).1) kt) ?_
                      refine oWk.to (mkF m 76 #[rv xa, iv xc1, iv 1, iv xc1] [(.int 0)]) (fun _ kt => zK X hx hby d4_75 rfl kt) ?_
                      exact oRetZ X hx hlk hret (hb hby d4_76) (Or.inl rfl) (by rw [e0]; exact ⟨(by rw [oBi_f (fun q => q.2.2.2.2.2.2 hio_1)]), rfl, K⟩) (by decide) (by decide)
                    · refine oWk.to (mkF m 77 #[rv xa, iv xc1, iv 1, iv xc1] []) (fun _ kt => zF X hx hby d4_72 rfl rfl ((if0 _ _).trans (teq (oBi_f hio_1)).1) (pc' := 77) rfl kt) ?_
                      refine oWk.st (fun _ kt => zC X hx hby d4_77 rfl rfl (l' := #[rv xa, iv xc1, iv ((1 : Int32) + (1 : Int32)), iv xc1]) rfl (zG X hx hby d4_80 rfl (pc' := 36) rfl (zI X hx hby d4_36 rfl rfl (zA X hx hby d4_37 rfl rfl rfl kt)))) ?_
                      obtain ⟨T, L20, X, e0, K, st⟩ := (cs16 hw).pure X hx hZ hown e0 K (A := [(.ref xa)]) ⟨rfl, _, _, rfl, E_xa⟩ (rLnU_2 l Z a0 hw [] xa xb xk xz xc0 xc1 h0 Oh S_COMPACT_STRINGS hz E_xa F_coder_xa F_value_xa V_xb) (fun _ _ _ q => q) (W := 1) (by decide) hml (Ls := #[rv xa, iv xc1, iv 2, iv xc1]) rfl (rest := [(.int (2 : Int32))]) rfl rfl hby d4_38
                      refine oWk.to (mkF m 84 #[rv xa, iv xc1, iv 2, iv xc1] [(.int 1)]) (fun _ kt => st _ (zY X hx hby d4_41 rfl rfl (flt (by decide)).2.1 (pc' := 83) rfl (zK X hx hby d4_83 rfl kt))) ?_
                      exact oRetZ X hx hlk hret (hb hby d4_84) (Or.inr rfl) (by rw [e0]; exact ⟨(by rw [oBi_t ⟨fun q => hq46 q.symm, fun q => hq32 q.symm, ⟨fun q => h47_0 q.symm, fun q => h92_0 q.symm, fun q => h58_0 q.symm, hio_0⟩, ⟨fun q => h47_1 q.symm, fun q => h92_1 q.symm, fun q => h58_1 q.symm, hio_1⟩⟩]), rfl, K⟩) (by decide) (by decide)
def Q_rEmL_3 (Z : State) (xa xb : Addr) (xk : ClassId) (xc0 xc1 xc2 : Int32) (h0 : Heap) (v : Option Value) (h : Heap) (L : List Loc) : Prop := v = some (.int (0 : Int32)) ∧ h = h0 ∧ oKp h0 h [] L
theorem rEmL_3 (l : Launch) (Z : State) (a0 : Array Value) (hw : oHW a0 Z) (ws : List Jvm.Cond) (xa xb : Addr) (xk : ClassId) (xc0 xc1 xc2 : Int32) (h0 : Heap) (O0 : Ext Z.heap h0) (F_value_xa : Fld Z h0 xa Y0 "value" "[B" (.ref xb)) (V_xb : Arv Z h0 xb xk .byte (3 : Int32) [(ib xc0), (ib xc1), (ib xc2)] (.int (0 : Int32))) :
    oCon l Z yy13 jdk_42_method_55_code 1 (some .boolean) ws ({ frames := 0, cells := 0, slots := 0, locals := 0 } : Room) #[(.ref xa)] h0 (Q_rEmL_3 Z xa xb xk xc0 xc1 xc2 h0) := by
  refine oCon.of (plainFor_of_name pn_2) ?_
  intro p e s m below meth c T X hx hby hml hown hnm hret hlk hZ e0
  have hml : c.maxLocals = 1 := hml
  have K : oKp h0 h0 [] [] := oKp.nil _ _
  refine oWk.cast (g' := (mkF m 0 #[rv xa] [])) (by first | rfl | (simp [entryFrame, mkF, argsToLocals, Value.category]; done)) ?_
  refine oWk.st (fun _ kt => zA X hx hby d5_0 rfl rfl rfl kt) ?_
  obtain ⟨T, X, e0, st⟩ := getF X hx hZ hown (host := "") (Or.inl (oW hw 22 rfl)) Via.refl e0 F_value_xa (g := (mkF m 1 #[rv xa] [(.ref xa)])) rfl rfl (hb hby d5_1)
  refine oWk.to (mkF m 13 #[rv xa] [(.int 0)]) (fun _ kt => st _ (oAl X hx hZ e0 V_xb hby d5_4 rfl rfl (zF X hx hby d5_5 rfl rfl ((if0 _ _).trans (feq (by decide)).2) (pc' := 12) rfl (zK X hx hby d5_12 rfl kt)))) ?_
  exact oRetZ X hx hlk hret (hb hby d5_13) (Or.inl rfl) (by rw [e0]; exact ⟨rfl, rfl, K⟩) (by decide) (by decide)
def Q_rLn_3 (Z : State) (xa xb : Addr) (xk : ClassId) (xz xc0 xc1 xc2 : Int32) (h0 : Heap) (v : Option Value) (h : Heap) (L : List Loc) : Prop := v = some (.int (3 : Int32)) ∧ h = h0 ∧ oKp h0 h [] L
theorem rLn_3 (l : Launch) (Z : State) (a0 : Array Value) (hw : oHW a0 Z) (ws : List Jvm.Cond) (xa xb : Addr) (xk : ClassId) (xz xc0 xc1 xc2 : Int32) (h0 : Heap) (O0 : Ext Z.heap h0) (S_COMPACT_STRINGS : Sta Z Z.heap Y0 Y6 "Z" (.int xz)) (hz : ¬ xz = (0 : Int32)) (E_xa : Exa Z h0 xa Y0) (F_coder_xa : Fld Z h0 xa Y0 "coder" "B" (.int (0 : Int32))) (F_value_xa : Fld Z h0 xa Y0 "value" "[B" (.ref xb)) (V_xb : Arv Z h0 xb xk .byte (3 : Int32) [(ib xc0), (ib xc1), (ib xc2)] (.int (0 : Int32))) :
    oCon l Z yy16 jdk_42_method_54_code 1 (some .int) ws ({ frames := 1, cells := 0, slots := 0, locals := 13 } : Room) #[(.ref xa)] h0 (Q_rLn_3 Z xa xb xk xz xc0 xc1 xc2 h0) := by
  refine oCon.of (plainFor_of_name pn_2) ?_
  intro p e s m below meth c T X hx hby hml hown hnm hret hlk hZ e0
  have hml : c.maxLocals = 1 := hml
  have K : oKp h0 h0 [] [] := oKp.nil _ _
  refine oWk.cast (g' := (mkF m 0 #[rv xa] [])) (by first | rfl | (simp [entryFrame, mkF, argsToLocals, Value.category]; done)) ?_
  refine oWk.st (fun _ kt => zA X hx hby d10_0 rfl rfl rfl kt) ?_
  obtain ⟨T, X, e0, st⟩ := getF X hx hZ hown (host := "") (Or.inl (oW hw 22 rfl)) Via.refl e0 F_value_xa (g := (mkF m 1 #[rv xa] [(.ref xa)])) rfl rfl (hb hby d10_1)
  refine oWk.st (fun _ kt => st _ (oAl X hx hZ e0 V_xb hby d10_4 rfl rfl (zA X hx hby d10_5 rfl rfl rfl kt))) ?_
  have Oh := K.old O0 all0
  obtain ⟨T, L3, X, e0, K, st⟩ := (cs11 hw).pure X hx hZ hown e0 K (A := [(.ref xa)]) ⟨rfl, _, _, rfl, E_xa⟩ (rCdr l Z a0 hw [] xa xz h0 Oh S_COMPACT_STRINGS hz F_coder_xa) (fun _ _ _ q => q) (W := 1) (by decide) hml (Ls := #[rv xa]) rfl (rest := [(.int (3 : Int32))]) rfl rfl hby d10_6
  refine oWk.to (mkF m 10 #[rv xa] [(.int 3)]) (fun _ kt => st _ (XS.ishr X.here hx rfl (hb hby d10_9) rfl kt)) ?_
  exact oRetI X hx hlk hret (hb hby d10_10) (by rw [e0]; exact ⟨rfl, rfl, K⟩) (by decide) (by decide)
def Q_rLC_3_0 (Z : State) (xb : Addr) (xk : ClassId) (xfm : Value) (xc0 xc1 xc2 : Int32) (h0 : Heap) (v : Option Value) (h : Heap) (L : List Loc) : Prop := v = some (.int xc0) ∧ h = h0 ∧ oKp h0 h [] L
theorem rLC_3_0 (l : Launch) (Z : State) (a0 : Array Value) (hw : oHW a0 Z) (ws : List Jvm.Cond) (xb : Addr) (xk : ClassId) (xfm : Value) (xc0 xc1 xc2 : Int32) (h0 : Heap) (O0 : Ext Z.heap h0) (S_SIOOBE_FORMATTER : Sta Z Z.heap Y2 Y4 Y5 xfm) (hcat : xfm.category = 1) (hr : 0 ≤ xc0.toInt ∧ xc0.toInt < 256) (V_xb : Arv Z h0 xb xk .byte (3 : Int32) [(ib xc0), (ib xc1), (ib xc2)] (.int (0 : Int32))) :
    oCon l Z yy20 jdk_43_method_2_code 2 (some .char) ws ({ frames := 2, cells := 0, slots := 0, locals := 27 } : Room) #[(.ref xb), (.int (0 : Int32))] h0 (Q_rLC_3_0 Z xb xk xfm xc0 xc1 xc2 h0) := by
  refine oCon.of (plainFor_of_name pn_6) ?_
  intro p e s m below meth c T X hx hby hml hown hnm hret hlk hZ e0
  have hml : c.maxLocals = 2 := hml
  have K : oKp h0 h0 [] [] := oKp.nil _ _
  refine oWk.cast (g' := (mkF m 0 #[rv xb, iv 0] [])) (by first | rfl | (simp [entryFrame, mkF, argsToLocals, Value.category]; done)) ?_
  refine oWk.st (fun _ kt => zI X hx hby d14_0 rfl rfl (zA X hx hby d14_1 rfl rfl rfl (oAl X hx hZ e0 V_xb hby d14_2 rfl rfl kt))) ?_
  have Oh := K.old O0 all0
  obtain ⟨T, L3, X, e0, K, st⟩ := (cs13 hw).pure X hx hZ hown e0 K (A := [(.int (0 : Int32)), (.int (3 : Int32))]) rfl (rCkI l Z a0 hw [] (0 : Int32) (3 : Int32) xfm h0 Oh S_SIOOBE_FORMATTER hcat (by decide) (by decide)) (fun _ _ _ q => q) (W := 0) (by decide) hml (Ls := #[rv xb, iv 0]) rfl (rest := []) rfl rfl hby d14_3
  refine oWk.to (mkF m 14 #[rv xb, iv 0] [(.int (((xc0.toInt8.toInt32) &&& (255 : Int32)).toUInt32.toUInt16.toUInt32.toInt32))]) (fun _ kt => st _ (zA X hx hby d14_6 rfl rfl rfl (zI X hx hby d14_7 rfl rfl (oLdB X hx hZ e0 V_xb (0 : Int32) (ib xc0) ⟨by decide, by decide⟩ rfl hby d14_8 rfl rfl (zM X hx hby d14_9 rfl (XS.iand X.here hx rfl (hb hby d14_12) rfl (XS.i2c X.here hx rfl (hb hby d14_13) rfl kt))))))) ?_
  rw [oBk hr]
  show oWk _ _ _ _ T (mkF m 14 #[rv xb, iv 0] [(.int xc0)])
  exact oRetN X hx hlk hret (Or.inr (Or.inl rfl)) (show narrow .char (.int xc0) = .int xc0 from congrArg Value.int (oChr hr)) (hb hby d14_14) (by rw [e0]; exact ⟨rfl, rfl, K⟩) (by decide) (by decide)
def Q_rCA_3_0 (Z : State) (xa xb : Addr) (xk : ClassId) (xfm : Value) (xz xc0 xc1 xc2 : Int32) (h0 : Heap) (v : Option Value) (h : Heap) (L : List Loc) : Prop := v = some (.int xc0) ∧ h = h0 ∧ oKp h0 h [] L
theorem rCA_3_0 (l : Launch) (Z : State) (a0 : Array Value) (hw : oHW a0 Z) (ws : List Jvm.Cond) (xa xb : Addr) (xk : ClassId) (xfm : Value) (xz xc0 xc1 xc2 : Int32) (h0 : Heap) (O0 : Ext Z.heap h0) (S_COMPACT_STRINGS : Sta Z Z.heap Y0 Y6 "Z" (.int xz)) (hz : ¬ xz = (0 : Int32)) (S_SIOOBE_FORMATTER : Sta Z Z.heap Y2 Y4 Y5 xfm) (hcat : xfm.category = 1) (hr : 0 ≤ xc0.toInt ∧ xc0.toInt < 256) (E_xa : Exa Z h0 xa Y0) (F_coder_xa : Fld Z h0 xa Y0 "coder" "B" (.int (0 : Int32))) (F_value_xa : Fld Z h0 xa Y0 "value" "[B" (.ref xb)) (V_xb : Arv Z h0 xb xk .byte (3 : Int32) [(ib xc0), (ib xc1), (ib xc2)] (.int (0 : Int32))) :
    oCon l Z yy21 jdk_42_method_56_code 2 (some .char) ws ({ frames := 3, cells := 0, slots := 0, locals := 40 } : Room) #[(.ref xa), (.int (0 : Int32))] h0 (Q_rCA_3_0 Z xa xb xk xfm xz xc0 xc1 xc2 h0) := by
  refine oCon.of (plainFor_of_name pn_2) ?_
  intro p e s m below meth c T X hx hby hml hown hnm hret hlk hZ e0
  have hml : c.maxLocals = 2 := hml
  have K : oKp h0 h0 [] [] := oKp.nil _ _
  refine oWk.cast (g' := (mkF m 0 #[rv xa, iv 0] [])) (by first | rfl | (simp [entryFrame, mkF, argsToLocals, Value.category]; done)) ?_
  refine oWk.st (fun _ kt => zA X hx hby d12_0 rfl rfl rfl kt) ?_
  have Oh := K.old O0 all0
  obtain ⟨T, L2, X, e0, K, st⟩ := (cs14 hw).pure X hx hZ hown e0 K (A := [(.ref xa)]) ⟨rfl, _, _, rfl, E_xa⟩ (rIsL l Z a0 hw [] xa xz h0 Oh S_COMPACT_STRINGS hz F_coder_xa) (fun _ _ _ q => q) (W := 0) (by decide) hml (Ls := #[rv xa, iv 0]) rfl (rest := []) rfl rfl hby d12_1
  refine oWk.st (fun _ kt => st _ (zH X hx hby d12_4 rfl rfl ((if0 _ _).trans (feq (by decide)).1) (zA X hx hby d12_7 rfl rfl rfl kt))) ?_
  obtain ⟨T, X, e0, st⟩ := getF X hx hZ hown (host := "") (Or.inl (oW hw 22 rfl)) Via.refl e0 F_value_xa (g := (mkF m 8 #[rv xa, iv 0] [(.ref xa)])) rfl rfl (hb hby d12_8)
  refine oWk.st (fun _ kt => st _ (zI X hx hby d12_11 rfl rfl kt)) ?_
  obtain ⟨T, L4, X, e0, K, st⟩ := (cs15 hw).pure X hx hZ hown e0 K (A := [(.ref xb), (.int (0 : Int32))]) rfl (rLC_3_0 l Z a0 hw [] xb xk xfm xc0 xc1 xc2 h0 Oh S_SIOOBE_FORMATTER hcat hr V_xb) (fun _ _ _ q => q) (W := 0) (by decide) hml (Ls := #[rv xa, iv 0]) rfl (rest := []) rfl rfl hby d12_12
  refine oWk.to (mkF m 15 #[rv xa, iv 0] [(.int xc0)]) (fun _ kt => st _ kt) ?_
  exact oRetN X hx hlk hret (Or.inr (Or.inl rfl)) (show narrow .char (.int xc0) = .int xc0 from congrArg Value.int (oChr hr)) (hb hby d12_15) (by rw [e0]; exact ⟨rfl, rfl, K⟩) (by decide) (by decide)
def Q_rLC_3_1 (Z : State) (xb : Addr) (xk : ClassId) (xfm : Value) (xc0 xc1 xc2 : Int32) (h0 : Heap) (v : Option Value) (h : Heap) (L : List Loc) : Prop := v = some (.int xc1) ∧ h = h0 ∧ oKp h0 h [] L
theorem rLC_3_1 (l : Launch) (Z : State) (a0 : Array Value) (hw : oHW a0 Z) (ws : List Jvm.Cond) (xb : Addr) (xk : ClassId) (xfm : Value) (xc0 xc1 xc2 : Int32) (h0 : Heap) (O0 : Ext Z.heap h0) (S_SIOOBE_FORMATTER : Sta Z Z.heap Y2 Y4 Y5 xfm) (hcat : xfm.category = 1) (hr : 0 ≤ xc1.toInt ∧ xc1.toInt < 256) (V_xb : Arv Z h0 xb xk .byte (3 : Int32) [(ib xc0), (ib xc1), (ib xc2)] (.int (0 : Int32))) :
    oCon l Z yy20 jdk_43_method_2_code 2 (some .char) ws ({ frames := 2, cells := 0, slots := 0, locals := 27 } : Room) #[(.ref xb), (.int (1 : Int32))] h0 (Q_rLC_3_1 Z xb xk xfm xc0 xc1 xc2 h0) := by
  refine oCon.of (plainFor_of_name pn_6) ?_
  intro p e s m below meth c T X hx hby hml hown hnm hret hlk hZ e0
  have hml : c.maxLocals = 2 := hml
  have K : oKp h0 h0 [] [] := oKp.nil _ _
  refine oWk.cast (g' := (mkF m 0 #[rv xb, iv 1] [])) (by first | rfl | (simp [entryFrame, mkF, argsToLocals, Value.category]; done)) ?_
  refine oWk.st (fun _ kt => zI X hx hby d14_0 rfl rfl (zA X hx hby d14_1 rfl rfl rfl (oAl X hx hZ e0 V_xb hby d14_2 rfl rfl kt))) ?_
  have Oh := K.old O0 all0
  obtain ⟨T, L3, X, e0, K, st⟩ := (cs13 hw).pure X hx hZ hown e0 K (A := [(.int (1 : Int32)), (.int (3 : Int32))]) rfl (rCkI l Z a0 hw [] (1 : Int32) (3 : Int32) xfm h0 Oh S_SIOOBE_FORMATTER hcat (by decide) (by decide)) (fun _ _ _ q => q) (W := 0) (by decide) hml (Ls := #[rv xb, iv 1]) rfl (rest := []) rfl rfl hby d14_3
  refine oWk.to (mkF m 14 #[rv xb, iv 1] [(.int (((xc1.toInt8.toInt32) &&& (255 : Int32)).toUInt32.toUInt16.toUInt32.toInt32))]) (fun _ kt => st _ (zA X hx hby d14_6 rfl rfl rfl (zI X hx hby d14_7 rfl rfl (oLdB X hx hZ e0 V_xb (1 : Int32) (ib xc1) ⟨by decide, by decide⟩ rfl hby d14_8 rfl rfl (zM X hx hby d14_9 rfl (XS.iand X.here hx rfl (hb hby d14_12) rfl (XS.i2c X.here hx rfl (hb hby d14_13) rfl kt))))))) ?_
  rw [oBk hr]
  show oWk _ _ _ _ T (mkF m 14 #[rv xb, iv 1] [(.int xc1)])
  exact oRetN X hx hlk hret (Or.inr (Or.inl rfl)) (show narrow .char (.int xc1) = .int xc1 from congrArg Value.int (oChr hr)) (hb hby d14_14) (by rw [e0]; exact ⟨rfl, rfl, K⟩) (by decide) (by decide)
def Q_rCA_3_1 (Z : State) (xa xb : Addr) (xk : ClassId) (xfm : Value) (xz xc0 xc1 xc2 : Int32) (h0 : Heap) (v : Option Value) (h : Heap) (L : List Loc) : Prop := v = some (.int xc1) ∧ h = h0 ∧ oKp h0 h [] L
theorem rCA_3_1 (l : Launch) (Z : State) (a0 : Array Value) (hw : oHW a0 Z) (ws : List Jvm.Cond) (xa xb : Addr) (xk : ClassId) (xfm : Value) (xz xc0 xc1 xc2 : Int32) (h0 : Heap) (O0 : Ext Z.heap h0) (S_COMPACT_STRINGS : Sta Z Z.heap Y0 Y6 "Z" (.int xz)) (hz : ¬ xz = (0 : Int32)) (S_SIOOBE_FORMATTER : Sta Z Z.heap Y2 Y4 Y5 xfm) (hcat : xfm.category = 1) (hr : 0 ≤ xc1.toInt ∧ xc1.toInt < 256) (E_xa : Exa Z h0 xa Y0) (F_coder_xa : Fld Z h0 xa Y0 "coder" "B" (.int (0 : Int32))) (F_value_xa : Fld Z h0 xa Y0 "value" "[B" (.ref xb)) (V_xb : Arv Z h0 xb xk .byte (3 : Int32) [(ib xc0), (ib xc1), (ib xc2)] (.int (0 : Int32))) :
    oCon l Z yy21 jdk_42_method_56_code 2 (some .char) ws ({ frames := 3, cells := 0, slots := 0, locals := 40 } : Room) #[(.ref xa), (.int (1 : Int32))] h0 (Q_rCA_3_1 Z xa xb xk xfm xz xc0 xc1 xc2 h0) := by
  refine oCon.of (plainFor_of_name pn_2) ?_
  intro p e s m below meth c T X hx hby hml hown hnm hret hlk hZ e0
  have hml : c.maxLocals = 2 := hml
  have K : oKp h0 h0 [] [] := oKp.nil _ _
  refine oWk.cast (g' := (mkF m 0 #[rv xa, iv 1] [])) (by first | rfl | (simp [entryFrame, mkF, argsToLocals, Value.category]; done)) ?_
  refine oWk.st (fun _ kt => zA X hx hby d12_0 rfl rfl rfl kt) ?_
  have Oh := K.old O0 all0
  obtain ⟨T, L2, X, e0, K, st⟩ := (cs14 hw).pure X hx hZ hown e0 K (A := [(.ref xa)]) ⟨rfl, _, _, rfl, E_xa⟩ (rIsL l Z a0 hw [] xa xz h0 Oh S_COMPACT_STRINGS hz F_coder_xa) (fun _ _ _ q => q) (W := 0) (by decide) hml (Ls := #[rv xa, iv 1]) rfl (rest := []) rfl rfl hby d12_1
  refine oWk.st (fun _ kt => st _ (zH X hx hby d12_4 rfl rfl ((if0 _ _).trans (feq (by decide)).1) (zA X hx hby d12_7 rfl rfl rfl kt))) ?_
  obtain ⟨T, X, e0, st⟩ := getF X hx hZ hown (host := "") (Or.inl (oW hw 22 rfl)) Via.refl e0 F_value_xa (g := (mkF m 8 #[rv xa, iv 1] [(.ref xa)])) rfl rfl (hb hby d12_8)
  refine oWk.st (fun _ kt => st _ (zI X hx hby d12_11 rfl rfl kt)) ?_
  obtain ⟨T, L4, X, e0, K, st⟩ := (cs15 hw).pure X hx hZ hown e0 K (A := [(.ref xb), (.int (1 : Int32))]) rfl (rLC_3_1 l Z a0 hw [] xb xk xfm xc0 xc1 xc2 h0 Oh S_SIOOBE_FORMATTER hcat hr V_xb) (fun _ _ _ q => q) (W := 0) (by decide) hml (Ls := #[rv xa, iv 1]) rfl (rest := []) rfl rfl hby d12_12
  refine oWk.to (mkF m 15 #[rv xa, iv 1] [(.int xc1)]) (fun _ kt => st _ kt) ?_
  exact oRetN X hx hlk hret (Or.inr (Or.inl rfl)) (show narrow .char (.int xc1) = .int xc1 from congrArg Value.int (oChr hr)) (hb hby d12_15) (by rw [e0]; exact ⟨rfl, rfl, K⟩) (by decide) (by decide)
def Q_rLC_3_2 (Z : State) (xb : Addr) (xk : ClassId) (xfm : Value) (xc0 xc1 xc2 : Int32) (h0 : Heap) (v : Option Value) (h : Heap) (L : List Loc) : Prop := v = some (.int xc2) ∧ h = h0 ∧ oKp h0 h [] L
theorem rLC_3_2 (l : Launch) (Z : State) (a0 : Array Value) (hw : oHW a0 Z) (ws : List Jvm.Cond) (xb : Addr) (xk : ClassId) (xfm : Value) (xc0 xc1 xc2 : Int32) (h0 : Heap) (O0 : Ext Z.heap h0) (S_SIOOBE_FORMATTER : Sta Z Z.heap Y2 Y4 Y5 xfm) (hcat : xfm.category = 1) (hr : 0 ≤ xc2.toInt ∧ xc2.toInt < 256) (V_xb : Arv Z h0 xb xk .byte (3 : Int32) [(ib xc0), (ib xc1), (ib xc2)] (.int (0 : Int32))) :
    oCon l Z yy20 jdk_43_method_2_code 2 (some .char) ws ({ frames := 2, cells := 0, slots := 0, locals := 27 } : Room) #[(.ref xb), (.int (2 : Int32))] h0 (Q_rLC_3_2 Z xb xk xfm xc0 xc1 xc2 h0) := by
  refine oCon.of (plainFor_of_name pn_6) ?_
  intro p e s m below meth c T X hx hby hml hown hnm hret hlk hZ e0
  have hml : c.maxLocals = 2 := hml
  have K : oKp h0 h0 [] [] := oKp.nil _ _
  refine oWk.cast (g' := (mkF m 0 #[rv xb, iv 2] [])) (by first | rfl | (simp [entryFrame, mkF, argsToLocals, Value.category]; done)) ?_
  refine oWk.st (fun _ kt => zI X hx hby d14_0 rfl rfl (zA X hx hby d14_1 rfl rfl rfl (oAl X hx hZ e0 V_xb hby d14_2 rfl rfl kt))) ?_
  have Oh := K.old O0 all0
  obtain ⟨T, L3, X, e0, K, st⟩ := (cs13 hw).pure X hx hZ hown e0 K (A := [(.int (2 : Int32)), (.int (3 : Int32))]) rfl (rCkI l Z a0 hw [] (2 : Int32) (3 : Int32) xfm h0 Oh S_SIOOBE_FORMATTER hcat (by decide) (by decide)) (fun _ _ _ q => q) (W := 0) (by decide) hml (Ls := #[rv xb, iv 2]) rfl (rest := []) rfl rfl hby d14_3
  refine oWk.to (mkF m 14 #[rv xb, iv 2] [(.int (((xc2.toInt8.toInt32) &&& (255 : Int32)).toUInt32.toUInt16.toUInt32.toInt32))]) (fun _ kt => st _ (zA X hx hby d14_6 rfl rfl rfl (zI X hx hby d14_7 rfl rfl (oLdB X hx hZ e0 V_xb (2 : Int32) (ib xc2) ⟨by decide, by decide⟩ rfl hby d14_8 rfl rfl (zM X hx hby d14_9 rfl (XS.iand X.here hx rfl (hb hby d14_12) rfl (XS.i2c X.here hx rfl (hb hby d14_13) rfl kt))))))) ?_
  rw [oBk hr]
  show oWk _ _ _ _ T (mkF m 14 #[rv xb, iv 2] [(.int xc2)])
  exact oRetN X hx hlk hret (Or.inr (Or.inl rfl)) (show narrow .char (.int xc2) = .int xc2 from congrArg Value.int (oChr hr)) (hb hby d14_14) (by rw [e0]; exact ⟨rfl, rfl, K⟩) (by decide) (by decide)
def Q_rCA_3_2 (Z : State) (xa xb : Addr) (xk : ClassId) (xfm : Value) (xz xc0 xc1 xc2 : Int32) (h0 : Heap) (v : Option Value) (h : Heap) (L : List Loc) : Prop := v = some (.int xc2) ∧ h = h0 ∧ oKp h0 h [] L
theorem rCA_3_2 (l : Launch) (Z : State) (a0 : Array Value) (hw : oHW a0 Z) (ws : List Jvm.Cond) (xa xb : Addr) (xk : ClassId) (xfm : Value) (xz xc0 xc1 xc2 : Int32) (h0 : Heap) (O0 : Ext Z.heap h0) (S_COMPACT_STRINGS : Sta Z Z.heap Y0 Y6 "Z" (.int xz)) (hz : ¬ xz = (0 : Int32)) (S_SIOOBE_FORMATTER : Sta Z Z.heap Y2 Y4 Y5 xfm) (hcat : xfm.category = 1) (hr : 0 ≤ xc2.toInt ∧ xc2.toInt < 256) (E_xa : Exa Z h0 xa Y0) (F_coder_xa : Fld Z h0 xa Y0 "coder" "B" (.int (0 : Int32))) (F_value_xa : Fld Z h0 xa Y0 "value" "[B" (.ref xb)) (V_xb : Arv Z h0 xb xk .byte (3 : Int32) [(ib xc0), (ib xc1), (ib xc2)] (.int (0 : Int32))) :
    oCon l Z yy21 jdk_42_method_56_code 2 (some .char) ws ({ frames := 3, cells := 0, slots := 0, locals := 40 } : Room) #[(.ref xa), (.int (2 : Int32))] h0 (Q_rCA_3_2 Z xa xb xk xfm xz xc0 xc1 xc2 h0) := by
  refine oCon.of (plainFor_of_name pn_2) ?_
  intro p e s m below meth c T X hx hby hml hown hnm hret hlk hZ e0
  have hml : c.maxLocals = 2 := hml
  have K : oKp h0 h0 [] [] := oKp.nil _ _
  refine oWk.cast (g' := (mkF m 0 #[rv xa, iv 2] [])) (by first | rfl | (simp [entryFrame, mkF, argsToLocals, Value.category]; done)) ?_
  refine oWk.st (fun _ kt => zA X hx hby d12_0 rfl rfl rfl kt) ?_
  have Oh := K.old O0 all0
  obtain ⟨T, L2, X, e0, K, st⟩ := (cs14 hw).pure X hx hZ hown e0 K (A := [(.ref xa)]) ⟨rfl, _, _, rfl, E_xa⟩ (rIsL l Z a0 hw [] xa xz h0 Oh S_COMPACT_STRINGS hz F_coder_xa) (fun _ _ _ q => q) (W := 0) (by decide) hml (Ls := #[rv xa, iv 2]) rfl (rest := []) rfl rfl hby d12_1
  refine oWk.st (fun _ kt => st _ (zH X hx hby d12_4 rfl rfl ((if0 _ _).trans (feq (by decide)).1) (zA X hx hby d12_7 rfl rfl rfl kt))) ?_
  obtain ⟨T, X, e0, st⟩ := getF X hx hZ hown (host := "") (Or.inl (oW hw 22 rfl)) Via.refl e0 F_value_xa (g := (mkF m 8 #[rv xa, iv 2] [(.ref xa)])) rfl rfl (hb hby d12_8)
  refine oWk.st (fun _ kt => st _ (zI X hx hby d12_11 rfl rfl kt)) ?_
  obtain ⟨T, L4, X, e0, K, st⟩ := (cs15 hw).pure X hx hZ hown e0 K (A := [(.ref xb), (.int (2 : Int32))]) rfl (rLC_3_2 l Z a0 hw [] xb xk xfm xc0 xc1 xc2 h0 Oh S_SIOOBE_FORMATTER hcat hr V_xb) (fun _ _ _ q => q) (W := 0) (by decide) hml (Ls := #[rv xa, iv 2]) rfl (rest := []) rfl rfl hby d12_12
  refine oWk.to (mkF m 15 #[rv xa, iv 2] [(.int xc2)]) (fun _ kt => st _ kt) ?_
  exact oRetN X hx hlk hret (Or.inr (Or.inl rfl)) (show narrow .char (.int xc2) = .int xc2 from congrArg Value.int (oChr hr)) (hb hby d12_15) (by rw [e0]; exact ⟨rfl, rfl, K⟩) (by decide) (by decide)
def Q_rSSL_3 (Z : State) (xa xb : Addr) (xk : ClassId) (xfm : Value) (xz xc0 xc1 xc2 : Int32) (h0 : Heap) (v : Option Value) (h : Heap) (L : List Loc) : Prop := v = some (.int (oBi (¬ xc2 = (46 : Int32) ∧ ¬ xc2 = (32 : Int32) ∧ oPl xc0 ∧ oPl xc1 ∧ oPl xc2))) ∧ h = h0 ∧ oKp h0 h [] L
theorem rSSL_3 (l : Launch) (Z : State) (a0 : Array Value) (hw : oHW a0 Z) (ws : List Jvm.Cond) (xa xb : Addr) (xk : ClassId) (xfm : Value) (xz xc0 xc1 xc2 : Int32) (h0 : Heap) (O0 : Ext Z.heap h0) (S_COMPACT_STRINGS : Sta Z Z.heap Y0 Y6 "Z" (.int xz)) (hz : ¬ xz = (0 : Int32)) (S_SIOOBE_FORMATTER : Sta Z Z.heap Y2 Y4 Y5 xfm) (hcat : xfm.category = 1) (E_xa : Exa Z h0 xa Y0) (F_coder_xa : Fld Z h0 xa Y0 "coder" "B" (.int (0 : Int32))) (F_value_xa : Fld Z h0 xa Y0 "value" "[B" (.ref xb)) (V_xb : Arv Z h0 xb xk .byte (3 : Int32) [(ib xc0), (ib xc1), (ib xc2)] (.int (0 : Int32))) (hr0 : 0 ≤ xc0.toInt ∧ xc0.toInt < 256) (hr1 : 0 ≤ xc1.toInt ∧ xc1.toInt < 256) (hr2 : 0 ≤ xc2.toInt ∧ xc2.toInt < 256) :
    oCon l Z yy14 prog_11_method_4_code 4 (some .boolean) ws ({ frames := 4, cells := 0, slots := 0, locals := 53 } : Room) #[(.ref xa)] h0 (Q_rSSL_3 Z xa xb xk xfm xz xc0 xc1 xc2 h0) := by
  refine oCon.of (plainFor_of_name pn_4) ?_
  intro p e s m below meth c T X hx hby hml hown hnm hret hlk hZ e0
  have hml : c.maxLocals = 4 := hml
  have K : oKp h0 h0 [] [] := oKp.nil _ _
  refine oWk.cast (g' := (mkF m 0 #[rv xa, uu, uu, uu] [])) (by first | rfl | (simp [entryFrame, mkF, argsToLocals, Value.category]; done)) ?_
  refine oWk.st (fun _ kt => zA X hx hby d4_0 rfl rfl rfl kt) ?_
  have Oh := K.old O0 all0
  obtain ⟨T, L2, X, e0, K, st⟩ := (cs10 hw).pure X hx hZ hown e0 K (A := [(.ref xa)]) ⟨rfl, _, _, rfl, E_xa⟩ (rEmL_3 l Z a0 hw [] xa xb xk xc0 xc1 xc2 h0 Oh F_value_xa V_xb) (fun _ _ _ q => q) (W := 0) (by decide) hml (Ls := #[rv xa, uu, uu, uu]) rfl (rest := []) rfl rfl hby d4_1
  refine oWk.st (fun _ kt => st _ (zF X hx hby d4_4 rfl rfl ((if0 _ _).trans (teq (by decide)).1) (pc' := 9) rfl (zA X hx hby d4_9 rfl rfl rfl (zA X hx hby d4_10 rfl rfl rfl kt)))) ?_
  obtain ⟨T, L4, X, e0, K, st⟩ := (cs16 hw).pure X hx hZ hown e0 K (A := [(.ref xa)]) ⟨rfl, _, _, rfl, E_xa⟩ (rLn_3 l Z a0 hw [] xa xb xk xz xc0 xc1 xc2 h0 Oh S_COMPACT_STRINGS hz E_xa F_coder_xa F_value_xa V_xb) (fun _ _ _ q => q) (W := 1) (by decide) hml (Ls := #[rv xa, uu, uu, uu]) rfl (rest := [(.ref xa)]) rfl rfl hby d4_11
  refine oWk.st (fun _ kt => st _ (zK X hx hby d4_14 rfl (XS.isub X.here hx rfl (hb hby d4_15) rfl kt))) ?_
  obtain ⟨T, L6, X, e0, K, st⟩ := (cs17 hw).pure X hx hZ hown e0 K (A := [(.ref xa), (.int (2 : Int32))]) ⟨rfl, _, _, rfl, E_xa⟩ (rCA_3_2 l Z a0 hw [] xa xb xk xfm xz xc0 xc1 xc2 h0 Oh S_COMPACT_STRINGS hz S_SIOOBE_FORMATTER hcat hr2 E_xa F_coder_xa F_value_xa V_xb) (fun _ _ _ q => q) (W := 0) (by decide) hml (Ls := #[rv xa, uu, uu, uu]) rfl (rest := []) rfl rfl hby d4_16
  refine oWk.to (mkF m 23 #[rv xa, iv xc2, uu, uu] [(.int xc2), (.int 46)]) (fun _ kt => st _ (zSn X hx hby d4_19 rfl rfl (l' := #[rv xa, iv xc2, uu, uu]) rfl (zL X hx hby d4_20 rfl (zI X hx hby d4_22 rfl rfl kt)))) ?_
  by_cases hq46 : (46 : Int32) = xc2
  · refine oWk.to (mkF m 32 #[rv xa, iv xc2, uu, uu] []) (fun _ kt => zY X hx hby d4_23 rfl rfl (teq hq46).1 (pc' := 32) rfl kt) ?_
    refine oWk.to (mkF m 33 #[rv xa, iv xc2, uu, uu] [(.int 0)]) (fun _ kt => zK X hx hby d4_32 rfl kt) ?_
    exact oRetZ X hx hlk hret (hb hby d4_33) (Or.inl rfl) (by rw [e0]; exact ⟨(by rw [oBi_f (fun q => q.1 hq46.symm)]), rfl, K⟩) (by decide) (by decide)
  · refine oWk.to (mkF m 26 #[rv xa, iv xc2, uu, uu] []) (fun _ kt => zN X hx hby d4_23 rfl rfl (feq hq46).1 kt) ?_
    refine oWk.to (mkF m 29 #[rv xa, iv xc2, uu, uu] [(.int xc2), (.int 32)]) (fun _ kt => zL X hx hby d4_26 rfl (zI X hx hby d4_28 rfl rfl kt)) ?_
    by_cases hq32 : (32 : Int32) = xc2
    · refine oWk.to (mkF m 32 #[rv xa, iv xc2, uu, uu] []) (fun _ kt => zN X hx hby d4_29 rfl rfl (teq hq32).2 kt) ?_
      refine oWk.to (mkF m 33 #[rv xa, iv xc2, uu, uu] [(.int 0)]) (fun _ kt => zK X hx hby d4_32 rfl kt) ?_
      exact oRetZ X hx hlk hret (hb hby d4_33) (Or.inl rfl) (by rw [e0]; exact ⟨(by rw [oBi_f (fun q => q.2.1 hq32.symm)]), rfl, K⟩) (by decide) (by decide)
    · refine oWk.to (mkF m 34 #[rv xa, iv xc2, uu, uu] []) (fun _ kt => zY X hx hby d4_29 rfl rfl (feq hq32).2 (pc' := 34) rfl kt) ?_
      refine oWk.st (fun _ kt => zK X hx hby d4_34 rfl (zSn X hx hby d4_35 rfl rfl (l' := #[rv xa, iv xc2, iv 0, uu]) rfl (zI X hx hby d4_36 rfl rfl (zA X hx hby d4_37 rfl rfl rfl kt)))) ?_
      obtain ⟨T, L8, X, e0, K, st⟩ := (cs16 hw).pure X hx hZ hown e0 K (A := [(.ref xa)]) ⟨rfl, _, _, rfl, E_xa⟩ (rLn_3 l Z a0 hw [] xa xb xk xz xc0 xc1 xc2 h0 Oh S_COMPACT_STRINGS hz E_xa F_coder_xa F_value_xa V_xb) (fun _ _ _ q => q) (W := 1) (by decide) hml (Ls := #[rv xa, iv xc2, iv 0, uu]) rfl (rest := [(.int (0 : Int32))]) rfl rfl hby d4_38
      refine oWk.st (fun _ kt => st _ (zN X hx hby d4_41 rfl rfl (tlt (by decide)).2.1 (zA X hx hby d4_44 rfl rfl rfl (zI X hx hby d4_45 rfl rfl kt)))) ?_
      obtain ⟨T, L10, X, e0, K, st⟩ := (cs17 hw).pure X hx hZ hown e0 K (A := [(.ref xa), (.int (0 : Int32))]) ⟨rfl, _, _, rfl, E_xa⟩ (rCA_3_0 l Z a0 hw [] xa xb xk xfm xz xc0 xc1 xc2 h0 Oh S_COMPACT_STRINGS hz S_SIOOBE_FORMATTER hcat hr0 E_xa F_coder_xa F_value_xa V_xb) (fun _ _ _ q => q) (W := 0) (by decide) hml (Ls := #[rv xa, iv xc2, iv 0, uu]) rfl (rest := []) rfl rfl hby d4_46
      refine oWk.to (mkF m 53 #[rv xa, iv xc2, iv 0, iv xc0] [(.int xc0), (.int 47)]) (fun _ kt => st _ (zSn X hx hby d4_49 rfl rfl (l' := #[rv xa, iv xc2, iv 0, iv xc0]) rfl (zL X hx hby d4_50 rfl (zI X hx hby d4_52 rfl rfl kt)))) ?_
      by_cases h47_0 : (47 : Int32) = xc0
      · refine oWk.to (mkF m 75 #[rv xa, iv xc2, iv 0, iv xc0] []) (fun _ kt => zY X hx hby d4_53 rfl rfl (teq h47_0).1 (pc' := 75) rfl kt) ?_
        refine oWk.to (mkF m 76 #[rv xa, iv xc2, iv 0, iv xc0] [(.int 0)]) (fun _ kt => zK X hx hby d4_75 rfl kt) ?_
        exact oRetZ X hx hlk hret (hb hby d4_76) (Or.inl rfl) (by rw [e0]; exact ⟨(by rw [oBi_f (fun q => q.2.2.1.1 h47_0.symm)]), rfl, K⟩) (by decide) (by decide)
      · refine oWk.to (mkF m 56 #[rv xa, iv xc2, iv 0, iv xc0] []) (fun _ kt => zN X hx hby d4_53 rfl rfl (feq h47_0).1 kt) ?_
        refine oWk.to (mkF m 59 #[rv xa, iv xc2, iv 0, iv xc0] [(.int xc0), (.int 92)]) (fun _ kt => zL X hx hby d4_56 rfl (zI X hx hby d4_58 rfl rfl kt)) ?_
        by_cases h92_0 : (92 : Int32) = xc0
        · refine oWk.to (mkF m 75 #[rv xa, iv xc2, iv 0, iv xc0] []) (fun _ kt => zY X hx hby d4_59 rfl rfl (teq h92_0).1 (pc' := 75) rfl kt) ?_
          refine oWk.to (mkF m 76 #[rv xa, iv xc2, iv 0, iv xc0] [(.int 0)]) (fun _ kt => zK X hx hby d4_75 rfl kt) ?_
          exact oRetZ X hx hlk hret (hb hby d4_76) (Or.inl rfl) (by rw [e0]; exact ⟨(by rw [oBi_f (fun q => q.2.2.1.2.1 h92_0.symm)]), rfl, K⟩) (by decide) (by decide)
        · refine oWk.to (mkF m 62 #[rv xa, iv xc2, iv 0, iv xc0] []) (fun _ kt => zN X hx hby d4_59 rfl rfl (feq h92_0).1 kt) ?_
          refine oWk.to (mkF m 65 #[rv xa, iv xc2, iv 0, iv xc0] [(.int xc0), (.int 58)]) (fun _ kt => zL X hx hby d4_62 rfl (zI X hx hby d4_64 rfl rfl kt)) ?_
          by_cases h58_0 : (58 : Int32) = xc0
          · refine oWk.to (mkF m 75 #[rv xa, iv xc2, iv 0, iv xc0] []) (fun _ kt => zY X hx hby d4_65 rfl rfl (teq h58_0).1 (pc' := 75) rfl kt) ?_
            refine oWk.to (mkF m 76 #[rv xa, iv xc2, iv 0, iv xc0] [(.int 0)]) (fun _ kt => zK X hx hby d4_75 rfl kt) ?_
            exact oRetZ X hx hlk hret (hb hby d4_76) (Or.inl rfl) (by rw [e0]; exact ⟨(by rw [oBi_f (fun q => q.2.2.1.2.2.1 h58_0.symm)]), rfl, K⟩) (by decide) (by decide)
          · refine oWk.to (mkF m 68 #[rv xa, iv xc2, iv 0, iv xc0] []) (fun _ kt => zN X hx hby d4_65 rfl rfl (feq h58_0).1 kt) ?_
            refine oWk.st (fun _ kt => zI X hx hby d4_68 rfl rfl kt) ?_
            obtain ⟨T, L12, X, e0, K, st⟩ := (cs18 hw).pure X hx hZ hown e0 K (A := [(.int xc0)]) rfl (rIso l Z a0 hw [] xc0 h0 Oh (oR8 hr0)) (fun _ _ _ q => q) (W := 0) (by decide) hml (Ls := #[rv xa, iv xc2, iv 0, iv xc0]) rfl (rest := []) rfl rfl hby d4_69
            refine oWk.to (mkF m 72 #[rv xa, iv xc2, iv 0, iv xc0] [(.int (oBi (oIso xc0)))]) (fun _ kt => st _ kt) ?_
            by_cases hio_0 : oIso xc0
            · refine oWk.to (mkF m 75 #[rv xa, iv xc2, iv 0, iv xc0] []) (fun _ kt => zH X hx hby d4_72 rfl rfl ((if0 _ _).trans (feq (oBi_ne hio_0)).1) kt) ?_
              refine oWk.to (mkF m 76 #[rv xa, iv xc2, iv 0, iv xc0] [(.int 0)]) (fun _ kt => zK X hx hby d4_75 rfl kt) ?_
              exact oRetZ X hx hlk hret (hb hby d4_76) (Or.inl rfl) (by rw [e0]; exact ⟨(by rw [oBi_f (fun q => q.2.2.1.2.2.2 hio_0)]), rfl, K⟩) (by decide) (by decide)
            · refine oWk.to (mkF m 77 #[rv xa, iv xc2, iv 0, iv xc0] []) (fun _ kt => zF X hx hby d4_72 rfl rfl ((if0 _ _).trans (teq (oBi_f hio_0)).1) (pc' := 77) rfl kt) ?_
              refine oWk.st (fun _ kt => zC X hx hby d4_77 rfl rfl (l' := #[rv xa, iv xc2, iv ((0 : Int32) + (1 : Int32)), iv xc0]) rfl (zG X hx hby d4_80 rfl (pc' := 36) rfl (zI X hx hby d4_36 rfl rfl (zA X hx hby d4_37 rfl rfl rfl kt)))) ?_
              obtain ⟨T, L14, X, e0, K, st⟩ := (cs16 hw).pure X hx hZ hown e0 K (A := [(.ref xa)]) ⟨rfl, _, _, rfl, E_xa⟩ (rLn_3 l Z a0 hw [] xa xb xk xz xc0 xc1 xc2 h0 Oh S_COMPACT_STRINGS hz E_xa F_coder_xa F_value_xa V_xb) (fun _ _ _ q => q) (W := 1) (by decide) hml (Ls := #[rv xa, iv xc2, iv 1, iv xc0]) rfl (rest := [(.int (1 : Int32))]) rfl rfl hby d4_38
              refine oWk.st (fun _ kt => st _ (zN X hx hby d4_41 rfl rfl (tlt (by decide)).2.1 (zA X hx hby d4_44 rfl rfl rfl (zI X hx hby d4_45 rfl rfl kt)))) ?_
              obtain ⟨T, L16, X, e0, K, st⟩ := (cs17 hw).pure X hx hZ hown e0 K (A := [(.ref xa), (.int (1 : Int32))]) ⟨rfl, _, _, rfl, E_xa⟩ (rCA_3_1 l Z a0 hw [] xa xb xk xfm xz xc0 xc1 xc2 h0 Oh S_COMPACT_STRINGS hz S_SIOOBE_FORMATTER hcat hr1 E_xa F_coder_xa F_value_xa V_xb) (fun _ _ _ q => q) (W := 0) (by decide) hml (Ls := #[rv xa, iv xc2, iv 1, iv xc0]) rfl (rest := []) rfl rfl hby d4_46
              refine oWk.to (mkF m 53 #[rv xa, iv xc2, iv 1, iv xc1] [(.int xc1), (.int 47)]) (fun _ kt => st _ (zSn X hx hby d4_49 rfl rfl (l' := #[rv xa, iv xc2, iv 1, iv xc1]) rfl (zL X hx hby d4_50 rfl (zI X hx hby d4_52 rfl rfl kt)))) ?_
              by_cases h47_1 : (47 : Int32) = xc1
              · refine oWk.to (mkF m 75 #[rv xa, iv xc2, iv 1, iv xc1] []) (fun _ kt => zY X hx hby d4_53 rfl rfl (teq h47_1).1 (pc' := 75) rfl kt) ?_
                refine oWk.to (mkF m 76 #[rv xa, iv xc2, iv 1, iv xc1] [(.int 0)]) (fun _ kt => zK X hx hby d4_75 rfl kt) ?_
                exact oRetZ X hx hlk hret (hb hby d4_76) (Or.inl rfl) (by rw [e0]; exact ⟨(by rw [oBi_f (fun q => q.2.2.2.1.1 h47_1.symm)]), rfl, K⟩) (by decide) (by decide)
              · refine oWk.to (mkF m 56 #[rv xa, iv xc2, iv 1, iv xc1] []) (fun _ kt => zN X hx hby d4_53 rfl rfl (feq h47_1).1 kt) ?_
                refine oWk.to (mkF m 59 #[rv xa, iv xc2, iv 1, iv xc1] [(.int xc1), (.int 92)]) (fun _ kt => zL X hx hby d4_56 rfl (zI X hx hby d4_58 rfl rfl kt)) ?_
                by_cases h92_1 : (92 : Int32) = xc1
                · refine oWk.to (mkF m 75 #[rv xa, iv xc2, iv 1, iv xc1] []) (fun _ kt => zY X hx hby d4_59 rfl rfl (teq h92_1).1 (pc' := 75) rfl kt) ?_
                  refine oWk.to (mkF m 76 #[rv xa, iv xc2, iv 1, iv xc1] [(.int 0)]) (fun _ kt => zK X hx hby d4_75 rfl kt) ?_
                  exact oRetZ X hx hlk hret (hb hby d4_76) (Or.inl rfl) (by rw [e0]; exact ⟨(by rw [oBi_f (fun q => q.2.2.2.1.2.1 h92_1.symm)]), rfl, K⟩) (by decide) (by decide)
                · refine oWk.to (mkF m 62 #[rv xa, iv xc2, iv 1, iv xc1] []) (fun _ kt => zN X hx hby d4_59 rfl rfl (feq h92_1).1 kt) ?_
                  refine oWk.to (mkF m 65 #[rv xa, iv xc2, iv 1, iv xc1] [(.int xc1), (.int 58)]) (fun _ kt => zL X hx hby d4_62 rfl (zI X hx hby d4_64 rfl rfl kt)) ?_
                  by_cases h58_1 : (58 : Int32) = xc1
                  · refine oWk.to (mkF m 75 #[rv xa, iv xc2, iv 1, iv xc1] []) (fun _ kt => zY X hx hby d4_65 rfl rfl (teq h58_1).1 (pc' := 75) rfl kt) ?_
                    refine oWk.to (mkF m 76 #[rv xa, iv xc2, iv 1, iv xc1] [(.int 0)]) (fun _ kt => zK X hx hby d4_75 rfl kt) ?_
                    exact oRetZ X hx hlk hret (hb hby d4_76) (Or.inl rfl) (by rw [e0]; exact ⟨(by rw [oBi_f (fun q => q.2.2.2.1.2.2.1 h58_1.symm)]), rfl, K⟩) (by decide) (by decide)
                  · refine oWk.to (mkF m 68 #[rv xa, iv xc2, iv 1, iv xc1] []) (fun _ kt => zN X hx hby d4_65 rfl rfl (feq h58_1).1 kt) ?_
                    refine oWk.st (fun _ kt => zI X hx hby d4_68 rfl rfl kt) ?_
                    obtain ⟨T, L18, X, e0, K, st⟩ := (cs18 hw).pure X hx hZ hown e0 K (A := [(.int xc1)]) rfl (rIso l Z a0 hw [] xc1 h0 Oh (oR8 hr1)) (fun _ _ _ q => q) (W := 0) (by decide) hml (Ls := #[rv xa, iv xc2, iv 1, iv xc1]) rfl (rest := []) rfl rfl hby d4_69
                    refine oWk.to (mkF m 72 #[rv xa, iv xc2, iv 1, iv xc1] [(.int (oBi (oIso xc1)))]) (fun _ kt => st _ kt) ?_
                    by_cases hio_1 : oIso xc1
                    · refine oWk.to (mkF m 75 #[rv xa, iv xc2, iv 1, iv xc1] []) (fun _ kt => zH X hx hby d4_72 rfl rfl ((if0 _ _).trans (feq (oBi_ne hio_1)).1) kt) ?_
                      refine oWk.to (mkF m 76 #[rv xa, iv xc2, iv 1, iv xc1] [(.int 0)]) (fun _ kt => zK X hx hby d4_75 rfl kt) ?_
                      exact oRetZ X hx hlk hret (hb hby d4_76) (Or.inl rfl) (by rw [e0]; exact ⟨(by rw [oBi_f (fun q => q.2.2.2.1.2.2.2 hio_1)]), rfl, K⟩) (by decide) (by decide)
                    · refine oWk.to (mkF m 77 #[rv xa, iv xc2, iv 1, iv xc1] []) (fun _ kt => zF X hx hby d4_72 rfl rfl ((if0 _ _).trans (teq (oBi_f hio_1)).1) (pc' := 77) rfl kt) ?_
                      refine oWk.st (fun _ kt => zC X hx hby d4_77 rfl rfl (l' := #[rv xa, iv xc2, iv ((1 : Int32) + (1 : Int32)), iv xc1]) rfl (zG X hx hby d4_80 rfl (pc' := 36) rfl (zI X hx hby d4_36 rfl rfl (zA X hx hby d4_37 rfl rfl rfl kt)))) ?_
                      obtain ⟨T, L20, X, e0, K, st⟩ := (cs16 hw).pure X hx hZ hown e0 K (A := [(.ref xa)]) ⟨rfl, _, _, rfl, E_xa⟩ (rLn_3 l Z a0 hw [] xa xb xk xz xc0 xc1 xc2 h0 Oh S_COMPACT_STRINGS hz E_xa F_coder_xa F_value_xa V_xb) (fun _ _ _ q => q) (W := 1) (by decide) hml (Ls := #[rv xa, iv xc2, iv 2, iv xc1]) rfl (rest := [(.int (2 : Int32))]) rfl rfl hby d4_38
                      refine oWk.st (fun _ kt => st _ (zN X hx hby d4_41 rfl rfl (tlt (by decide)).2.1 (zA X hx hby d4_44 rfl rfl rfl (zI X hx hby d4_45 rfl rfl kt)))) ?_
                      obtain ⟨T, L22, X, e0, K, st⟩ := (cs17 hw).pure X hx hZ hown e0 K (A := [(.ref xa), (.int (2 : Int32))]) ⟨rfl, _, _, rfl, E_xa⟩ (rCA_3_2 l Z a0 hw [] xa xb xk xfm xz xc0 xc1 xc2 h0 Oh S_COMPACT_STRINGS hz S_SIOOBE_FORMATTER hcat hr2 E_xa F_coder_xa F_value_xa V_xb) (fun _ _ _ q => q) (W := 0) (by decide) hml (Ls := #[rv xa, iv xc2, iv 2, iv xc1]) rfl (rest := []) rfl rfl hby d4_46
                      refine oWk.to (mkF m 53 #[rv xa, iv xc2, iv 2, iv xc2] [(.int xc2), (.int 47)]) (fun _ kt => st _ (zSn X hx hby d4_49 rfl rfl (l' := #[rv xa, iv xc2, iv 2, iv xc2]) rfl (zL X hx hby d4_50 rfl (zI X hx hby d4_52 rfl rfl kt)))) ?_
                      by_cases h47_2 : (47 : Int32) = xc2
                      · refine oWk.to (mkF m 75 #[rv xa, iv xc2, iv 2, iv xc2] []) (fun _ kt => zY X hx hby d4_53 rfl rfl (teq h47_2).1 (pc' := 75) rfl kt) ?_
                        refine oWk.to (mkF m 76 #[rv xa, iv xc2, iv 2, iv xc2] [(.int 0)]) (fun _ kt => zK X hx hby d4_75 rfl kt) ?_
                        exact oRetZ X hx hlk hret (hb hby d4_76) (Or.inl rfl) (by rw [e0]; exact ⟨(by rw [oBi_f (fun q => q.2.2.2.2.1 h47_2.symm)]), rfl, K⟩) (by decide) (by decide)
                      · refine oWk.to (mkF m 56 #[rv xa, iv xc2, iv 2, iv xc2] []) (fun _ kt => zN X hx hby d4_53 rfl rfl (feq h47_2).1 kt) ?_
                        refine oWk.to (mkF m 59 #[rv xa, iv xc2, iv 2, iv xc2] [(.int xc2), (.int 92)]) (fun _ kt => zL X hx hby d4_56 rfl (zI X hx hby d4_58 rfl rfl kt)) ?_
                        by_cases h92_2 : (92 : Int32) = xc2
                        · refine oWk.to (mkF m 75 #[rv xa, iv xc2, iv 2, iv xc2] []) (fun _ kt => zY X hx hby d4_59 rfl rfl (teq h92_2).1 (pc' := 75) rfl kt) ?_
                          refine oWk.to (mkF m 76 #[rv xa, iv xc2, iv 2, iv xc2] [(.int 0)]) (fun _ kt => zK X hx hby d4_75 rfl kt) ?_
                          exact oRetZ X hx hlk hret (hb hby d4_76) (Or.inl rfl) (by rw [e0]; exact ⟨(by rw [oBi_f (fun q => q.2.2.2.2.2.1 h92_2.symm)]), rfl, K⟩) (by decide) (by decide)
                        · refine oWk.to (mkF m 62 #[rv xa, iv xc2, iv 2, iv xc2] []) (fun _ kt => zN X hx hby d4_59 rfl rfl (feq h92_2).1 kt) ?_
                          refine oWk.to (mkF m 65 #[rv xa, iv xc2, iv 2, iv xc2] [(.int xc2), (.int 58)]) (fun _ kt => zL X hx hby d4_62 rfl (zI X hx hby d4_64 rfl rfl kt)) ?_
                          by_cases h58_2 : (58 : Int32) = xc2
                          · refine oWk.to (mkF m 75 #[rv xa, iv xc2, iv 2, iv xc2] []) (fun _ kt => zY X hx hby d4_65 rfl rfl (teq h58_2).1 (pc' := 75) rfl kt) ?_
                            refine oWk.to (mkF m 76 #[rv xa, iv xc2, iv 2, iv xc2] [(.int 0)]) (fun _ kt => zK X hx hby d4_75 rfl kt) ?_
                            exact oRetZ X hx hlk hret (hb hby d4_76) (Or.inl rfl) (by rw [e0]; exact ⟨(by rw [oBi_f (fun q => q.2.2.2.2.2.2.1 h58_2.symm)]), rfl, K⟩) (by decide) (by decide)
                          · refine oWk.to (mkF m 68 #[rv xa, iv xc2, iv 2, iv xc2] []) (fun _ kt => zN X hx hby d4_65 rfl rfl (feq h58_2).1 kt) ?_
                            refine oWk.st (fun _ kt => zI X hx hby d4_68 rfl rfl kt) ?_
                            obtain ⟨T, L24, X, e0, K, st⟩ := (cs18 hw).pure X hx hZ hown e0 K (A := [(.int xc2)]) rfl (rIso l Z a0 hw [] xc2 h0 Oh (oR8 hr2)) (fun _ _ _ q => q) (W := 0) (by decide) hml (Ls := #[rv xa, iv xc2, iv 2, iv xc2]) rfl (rest := []) rfl rfl hby d4_69
                            refine oWk.to (mkF m 72 #[rv xa, iv xc2, iv 2, iv xc2] [(.int (oBi (oIso xc2)))]) (fun _ kt => st _ kt) ?_
                            by_cases hio_2 : oIso xc2
                            · refine oWk.to (mkF m 75 #[rv xa, iv xc2, iv 2, iv xc2] []) (fun _ kt => zH X hx hby d4_72 rfl rfl ((if0 _ _).trans (feq (oBi_ne hio_2)).1) kt) ?_
                              refine oWk.to (mkF m 76 #[rv xa, iv xc2, iv 2, iv xc2] [(.int 0)]) (fun _ kt => zK X hx hby d4_75 rfl kt) ?_
                              exact oRetZ X hx hlk hret (hb hby d4_76) (Or.inl rfl) (by rw [e0]; exact ⟨(by rw [oBi_f (fun q => q.2.2.2.2.2.2.2 hio_2)]), rfl, K⟩) (by decide) (by decide)
                            · refine oWk.to (mkF m 77 #[rv xa, iv xc2, iv 2, iv xc2] []) (fun _ kt => zF X hx hby d4_72 rfl rfl ((if0 _ _).trans (teq (oBi_f hio_2)).1) (pc' := 77) rfl kt) ?_
                              refine oWk.st (fun _ kt => zC X hx hby d4_77 rfl rfl (l' := #[rv xa, iv xc2, iv ((2 : Int32) + (1 : Int32)), iv xc2]) rfl (zG X hx hby d4_80 rfl (pc' := 36) rfl (zI X hx hby d4_36 rfl rfl (zA X hx hby d4_37 rfl rfl rfl kt)))) ?_
                              obtain ⟨T, L26, X, e0, K, st⟩ := (cs16 hw).pure X hx hZ hown e0 K (A := [(.ref xa)]) ⟨rfl, _, _, rfl, E_xa⟩ (rLn_3 l Z a0 hw [] xa xb xk xz xc0 xc1 xc2 h0 Oh S_COMPACT_STRINGS hz E_xa F_coder_xa F_value_xa V_xb) (fun _ _ _ q => q) (W := 1) (by decide) hml (Ls := #[rv xa, iv xc2, iv 3, iv xc2]) rfl (rest := [(.int (3 : Int32))]) rfl rfl hby d4_38
                              refine oWk.to (mkF m 84 #[rv xa, iv xc2, iv 3, iv xc2] [(.int 1)]) (fun _ kt => st _ (zY X hx hby d4_41 rfl rfl (flt (by decide)).2.1 (pc' := 83) rfl (zK X hx hby d4_83 rfl kt))) ?_
                              exact oRetZ X hx hlk hret (hb hby d4_84) (Or.inr rfl) (by rw [e0]; exact ⟨(by rw [oBi_t ⟨fun q => hq46 q.symm, fun q => hq32 q.symm, ⟨fun q => h47_0 q.symm, fun q => h92_0 q.symm, fun q => h58_0 q.symm, hio_0⟩, ⟨fun q => h47_1 q.symm, fun q => h92_1 q.symm, fun q => h58_1 q.symm, hio_1⟩, ⟨fun q => h47_2 q.symm, fun q => h92_2 q.symm, fun q => h58_2 q.symm, hio_2⟩⟩]), rfl, K⟩) (by decide) (by decide)
def Q_rEmU_3 (Z : State) (xa xb : Addr) (xk : ClassId) (xc0 xc1 xc2 : Int32) (h0 : Heap) (v : Option Value) (h : Heap) (L : List Loc) : Prop := v = some (.int (0 : Int32)) ∧ h = h0 ∧ oKp h0 h [] L
theorem rEmU_3 (l : Launch) (Z : State) (a0 : Array Value) (hw : oHW a0 Z) (ws : List Jvm.Cond) (xa xb : Addr) (xk : ClassId) (xc0 xc1 xc2 : Int32) (h0 : Heap) (O0 : Ext Z.heap h0) (F_value_xa : Fld Z h0 xa Y0 "value" "[B" (.ref xb)) (V_xb : Arv Z h0 xb xk .byte (6 : Int32) [(iu0 xc0), (iu8 xc0), (iu0 xc1), (iu8 xc1), (iu0 xc2), (iu8 xc2)] (.int (0 : Int32))) :
    oCon l Z yy13 jdk_42_method_55_code 1 (some .boolean) ws ({ frames := 0, cells := 0, slots := 0, locals := 0 } : Room) #[(.ref xa)] h0 (Q_rEmU_3 Z xa xb xk xc0 xc1 xc2 h0) := by
  refine oCon.of (plainFor_of_name pn_2) ?_
  intro p e s m below meth c T X hx hby hml hown hnm hret hlk hZ e0
  have hml : c.maxLocals = 1 := hml
  have K : oKp h0 h0 [] [] := oKp.nil _ _
  refine oWk.cast (g' := (mkF m 0 #[rv xa] [])) (by first | rfl | (simp [entryFrame, mkF, argsToLocals, Value.category]; done)) ?_
  refine oWk.st (fun _ kt => zA X hx hby d5_0 rfl rfl rfl kt) ?_
  obtain ⟨T, X, e0, st⟩ := getF X hx hZ hown (host := "") (Or.inl (oW hw 22 rfl)) Via.refl e0 F_value_xa (g := (mkF m 1 #[rv xa] [(.ref xa)])) rfl rfl (hb hby d5_1)
  refine oWk.to (mkF m 13 #[rv xa] [(.int 0)]) (fun _ kt => st _ (oAl X hx hZ e0 V_xb hby d5_4 rfl rfl (zF X hx hby d5_5 rfl rfl ((if0 _ _).trans (feq (by decide)).2) (pc' := 12) rfl (zK X hx hby d5_12 rfl kt)))) ?_
  exact oRetZ X hx hlk hret (hb hby d5_13) (Or.inl rfl) (by rw [e0]; exact ⟨rfl, rfl, K⟩) (by decide) (by decide)
def Q_rLnU_3 (Z : State) (xa xb : Addr) (xk : ClassId) (xz xc0 xc1 xc2 : Int32) (h0 : Heap) (v : Option Value) (h : Heap) (L : List Loc) : Prop := v = some (.int (3 : Int32)) ∧ h = h0 ∧ oKp h0 h [] L
theorem rLnU_3 (l : Launch) (Z : State) (a0 : Array Value) (hw : oHW a0 Z) (ws : List Jvm.Cond) (xa xb : Addr) (xk : ClassId) (xz xc0 xc1 xc2 : Int32) (h0 : Heap) (O0 : Ext Z.heap h0) (S_COMPACT_STRINGS : Sta Z Z.heap Y0 Y6 "Z" (.int xz)) (hz : ¬ xz = (0 : Int32)) (E_xa : Exa Z h0 xa Y0) (F_coder_xa : Fld Z h0 xa Y0 "coder" "B" (.int (1 : Int32))) (F_value_xa : Fld Z h0 xa Y0 "value" "[B" (.ref xb)) (V_xb : Arv Z h0 xb xk .byte (6 : Int32) [(iu0 xc0), (iu8 xc0), (iu0 xc1), (iu8 xc1), (iu0 xc2), (iu8 xc2)] (.int (0 : Int32))) :
    oCon l Z yy16 jdk_42_method_54_code 1 (some .int) ws ({ frames := 1, cells := 0, slots := 0, locals := 13 } : Room) #[(.ref xa)] h0 (Q_rLnU_3 Z xa xb xk xz xc0 xc1 xc2 h0) := by
  refine oCon.of (plainFor_of_name pn_2) ?_
  intro p e s m below meth c T X hx hby hml hown hnm hret hlk hZ e0
  have hml : c.maxLocals = 1 := hml
  have K : oKp h0 h0 [] [] := oKp.nil _ _
  refine oWk.cast (g' := (mkF m 0 #[rv xa] [])) (by first | rfl | (simp [entryFrame, mkF, argsToLocals, Value.category]; done)) ?_
  refine oWk.st (fun _ kt => zA X hx hby d10_0 rfl rfl rfl kt) ?_
  obtain ⟨T, X, e0, st⟩ := getF X hx hZ hown (host := "") (Or.inl (oW hw 22 rfl)) Via.refl e0 F_value_xa (g := (mkF m 1 #[rv xa] [(.ref xa)])) rfl rfl (hb hby d10_1)
  refine oWk.st (fun _ kt => st _ (oAl X hx hZ e0 V_xb hby d10_4 rfl rfl (zA X hx hby d10_5 rfl rfl rfl kt))) ?_
  have Oh := K.old O0 all0
  obtain ⟨T, L3, X, e0, K, st⟩ := (cs11 hw).pure X hx hZ hown e0 K (A := [(.ref xa)]) ⟨rfl, _, _, rfl, E_xa⟩ (rCdr1 l Z a0 hw [] xa xz h0 Oh S_COMPACT_STRINGS hz F_coder_xa) (fun _ _ _ q => q) (W := 1) (by decide) hml (Ls := #[rv xa]) rfl (rest := [(.int (6 : Int32))]) rfl rfl hby d10_6
  refine oWk.to (mkF m 10 #[rv xa] [(.int 3)]) (fun _ kt => st _ (XS.ishr X.here hx rfl (hb hby d10_9) rfl kt)) ?_
  exact oRetI X hx hlk hret (hb hby d10_10) (by rw [e0]; exact ⟨rfl, rfl, K⟩) (by decide) (by decide)
def Q_rUL_3 (Z : State) (xb : Addr) (xk : ClassId) (xc0 xc1 xc2 : Int32) (h0 : Heap) (v : Option Value) (h : Heap) (L : List Loc) : Prop := v = some (.int (3 : Int32)) ∧ h = h0 ∧ oKp h0 h [] L
theorem rUL_3 (l : Launch) (Z : State) (a0 : Array Value) (hw : oHW a0 Z) (ws : List Jvm.Cond) (xb : Addr) (xk : ClassId) (xc0 xc1 xc2 : Int32) (h0 : Heap) (O0 : Ext Z.heap h0) (V_xb : Arv Z h0 xb xk .byte (6 : Int32) [(iu0 xc0), (iu8 xc0), (iu0 xc1), (iu8 xc1), (iu0 xc2), (iu8 xc2)] (.int (0 : Int32))) :
    oCon l Z yy22 jdk_52_method_6_code 1 (some .int) ws ({ frames := 0, cells := 0, slots := 0, locals := 0 } : Room) #[(.ref xb)] h0 (Q_rUL_3 Z xb xk xc0 xc1 xc2 h0) := by
  refine oCon.of (plainFor_of_name pn_3) ?_
  intro p e s m below meth c T X hx hby hml hown hnm hret hlk hZ e0
  have hml : c.maxLocals = 1 := hml
  have K : oKp h0 h0 [] [] := oKp.nil _ _
  refine oWk.cast (g' := (mkF m 0 #[rv xb] [])) (by first | rfl | (simp [entryFrame, mkF, argsToLocals, Value.category]; done)) ?_
  refine oWk.to (mkF m 4 #[rv xb] [(.int 3)]) (fun _ kt => zA X hx hby d26_0 rfl rfl rfl (oAl X hx hZ e0 V_xb hby d26_1 rfl rfl (zK X hx hby d26_2 rfl (XS.ishr X.here hx rfl (hb hby d26_3) rfl kt)))) ?_
  exact oRetI X hx hlk hret (hb hby d26_4) (by rw [e0]; exact ⟨rfl, rfl, K⟩) (by decide) (by decide)
def Q_rUCk_3_0 (Z : State) (xb : Addr) (xk : ClassId) (xfm : Value) (xc0 xc1 xc2 : Int32) (h0 : Heap) (v : Option Value) (h : Heap) (L : List Loc) : Prop := v = none ∧ h = h0 ∧ oKp h0 h [] L
theorem rUCk_3_0 (l : Launch) (Z : State) (a0 : Array Value) (hw : oHW a0 Z) (ws : List Jvm.Cond) (xb : Addr) (xk : ClassId) (xfm : Value) (xc0 xc1 xc2 : Int32) (h0 : Heap) (O0 : Ext Z.heap h0) (S_SIOOBE_FORMATTER : Sta Z Z.heap Y2 Y4 Y5 xfm) (hcat : xfm.category = 1) (V_xb : Arv Z h0 xb xk .byte (6 : Int32) [(iu0 xc0), (iu8 xc0), (iu0 xc1), (iu8 xc1), (iu0 xc2), (iu8 xc2)] (.int (0 : Int32))) :
    oCon l Z yy23 jdk_52_method_91_code 2 none ws ({ frames := 2, cells := 0, slots := 0, locals := 27 } : Room) #[(.int (0 : Int32)), (.ref xb)] h0 (Q_rUCk_3_0 Z xb xk xfm xc0 xc1 xc2 h0) := by
  refine oCon.of (plainFor_of_name pn_3) ?_
  intro p e s m below meth c T X hx hby hml hown hnm hret hlk hZ e0
  have hml : c.maxLocals = 2 := hml
  have K : oKp h0 h0 [] [] := oKp.nil _ _
  refine oWk.cast (g' := (mkF m 0 #[iv 0, rv xb] [])) (by first | rfl | (simp [entryFrame, mkF, argsToLocals, Value.category]; done)) ?_
  refine oWk.st (fun _ kt => zI X hx hby d25_0 rfl rfl (zA X hx hby d25_1 rfl rfl rfl kt)) ?_
  have Oh := K.old O0 all0
  obtain ⟨T, L2, X, e0, K, st⟩ := (cs19 hw).pure X hx hZ hown e0 K (A := [(.ref xb)]) rfl (rUL_3 l Z a0 hw [] xb xk xc0 xc1 xc2 h0 Oh V_xb) (fun _ _ _ q => q) (W := 1) (by decide) hml (Ls := #[iv 0, rv xb]) rfl (rest := [(.int (0 : Int32))]) rfl rfl hby d25_2
  refine oWk.st (fun _ kt => st _ kt) ?_
  obtain ⟨T, L4, X, e0, K, st⟩ := (cs20 hw).pure X hx hZ hown e0 K (A := [(.int (0 : Int32)), (.int (3 : Int32))]) rfl (rCkI l Z a0 hw [] (0 : Int32) (3 : Int32) xfm h0 Oh S_SIOOBE_FORMATTER hcat (by decide) (by decide)) (fun _ _ _ q => q) (W := 0) (by decide) hml (Ls := #[iv 0, rv xb]) rfl (rest := []) rfl rfl hby d25_5
  refine oWk.to (mkF m 8 #[iv 0, rv xb] []) (fun _ kt => st _ kt) ?_
  exact oRetV X hx hlk hret (hb hby d25_8) (by rw [e0]; exact ⟨rfl, rfl, K⟩) (by decide) (by decide)
def Q_rUC_3_0 (Z : State) (xb : Addr) (xk : ClassId) (xfm : Value) (xc0 xc1 xc2 : Int32) (h0 : Heap) (v : Option Value) (h : Heap) (L : List Loc) : Prop := v = some (.int xc0) ∧ h = h0 ∧ oKp h0 h [] L
theorem rUC_3_0 (l : Launch) (Z : State) (a0 : Array Value) (hw : oHW a0 Z) (ws : List Jvm.Cond) (xb : Addr) (xk : ClassId) (xfm : Value) (xc0 xc1 xc2 : Int32) (h0 : Heap) (O0 : Ext Z.heap h0) (S__assertionsDisabled : Sta Z Z.heap Y1 Y3 "Z" (.int (1 : Int32))) (S_HI_BYTE_SHIFT : Sta Z Z.heap Y1 "HI_BYTE_SHIFT" "I" (.int (0 : Int32))) (S_LO_BYTE_SHIFT : Sta Z Z.heap Y1 "LO_BYTE_SHIFT" "I" (.int (8 : Int32))) (S_SIOOBE_FORMATTER : Sta Z Z.heap Y2 Y4 Y5 xfm) (hcat : xfm.category = 1) (hr : 0 ≤ xc0.toInt ∧ xc0.toInt < 65536) (V_xb : Arv Z h0 xb xk .byte (6 : Int32) [(iu0 xc0), (iu8 xc0), (iu0 xc1), (iu8 xc1), (iu0 xc2), (iu8 xc2)] (.int (0 : Int32))) :
    oCon l Z yy24 jdk_52_method_83_code 2 (some .char) ws ({ frames := 3, cells := 0, slots := 0, locals := 40 } : Room) #[(.ref xb), (.int (0 : Int32))] h0 (Q_rUC_3_0 Z xb xk xfm xc0 xc1 xc2 h0) := by
  refine oCon.of (plainFor_of_name pn_3) ?_
  intro p e s m below meth c T X hx hby hml hown hnm hret hlk hZ e0
  have hml : c.maxLocals = 2 := hml
  have K : oKp h0 h0 [] [] := oKp.nil _ _
  refine oWk.cast (g' := (mkF m 0 #[rv xb, iv 0] [])) (by first | rfl | (simp [entryFrame, mkF, argsToLocals, Value.category]; done)) ?_
  refine oWk.st (fun _ kt => zI X hx hby d24_0 rfl rfl (zA X hx hby d24_1 rfl rfl rfl kt)) ?_
  have Oh := K.old O0 all0
  obtain ⟨T, L2, X, e0, K, st⟩ := (cs21 hw).pure X hx hZ hown e0 K (A := [(.int (0 : Int32)), (.ref xb)]) rfl (rUCk_3_0 l Z a0 hw [] xb xk xfm xc0 xc1 xc2 h0 Oh S_SIOOBE_FORMATTER hcat V_xb) (fun _ _ _ q => q) (W := 0) (by decide) hml (Ls := #[rv xb, iv 0]) rfl (rest := []) rfl rfl hby d24_2
  refine oWk.st (fun _ kt => st _ (zA X hx hby d24_5 rfl rfl rfl (zI X hx hby d24_6 rfl rfl kt))) ?_
  obtain ⟨T, L4, X, e0, K, st⟩ := (cs9 hw).pure X hx hZ hown e0 K (A := [(.ref xb), (.int (0 : Int32))]) rfl (rGC_3_0 l Z a0 hw [] xb xk xc0 xc1 xc2 h0 Oh S__assertionsDisabled S_HI_BYTE_SHIFT S_LO_BYTE_SHIFT hr V_xb) (fun _ _ _ q => q) (W := 0) (by decide) hml (Ls := #[rv xb, iv 0]) rfl (rest := []) rfl rfl hby d24_7
  refine oWk.to (mkF m 10 #[rv xb, iv 0] [(.int xc0)]) (fun _ kt => st _ kt) ?_
  exact oRetN X hx hlk hret (Or.inr (Or.inl rfl)) (show narrow .char (.int xc0) = .int xc0 from congrArg Value.int (oChrU hr)) (hb hby d24_10) (by rw [e0]; exact ⟨rfl, rfl, K⟩) (by decide) (by decide)
def Q_rCAU_3_0 (Z : State) (xa xb : Addr) (xk : ClassId) (xfm : Value) (xz xc0 xc1 xc2 : Int32) (h0 : Heap) (v : Option Value) (h : Heap) (L : List Loc) : Prop := v = some (.int xc0) ∧ h = h0 ∧ oKp h0 h [] L
theorem rCAU_3_0 (l : Launch) (Z : State) (a0 : Array Value) (hw : oHW a0 Z) (ws : List Jvm.Cond) (xa xb : Addr) (xk : ClassId) (xfm : Value) (xz xc0 xc1 xc2 : Int32) (h0 : Heap) (O0 : Ext Z.heap h0) (S_COMPACT_STRINGS : Sta Z Z.heap Y0 Y6 "Z" (.int xz)) (hz : ¬ xz = (0 : Int32)) (S__assertionsDisabled : Sta Z Z.heap Y1 Y3 "Z" (.int (1 : Int32))) (S_HI_BYTE_SHIFT : Sta Z Z.heap Y1 "HI_BYTE_SHIFT" "I" (.int (0 : Int32))) (S_LO_BYTE_SHIFT : Sta Z Z.heap Y1 "LO_BYTE_SHIFT" "I" (.int (8 : Int32))) (S_SIOOBE_FORMATTER : Sta Z Z.heap Y2 Y4 Y5 xfm) (hcat : xfm.category = 1) (hr : 0 ≤ xc0.toInt ∧ xc0.toInt < 65536) (E_xa : Exa Z h0 xa Y0) (F_coder_xa : Fld Z h0 xa Y0 "coder" "B" (.int (1 : Int32))) (F_value_xa : Fld Z h0 xa Y0 "value" "[B" (.ref xb)) (V_xb : Arv Z h0 xb xk .byte (6 : Int32) [(iu0 xc0), (iu8 xc0), (iu0 xc1), (iu8 xc1), (iu0 xc2), (iu8 xc2)] (.int (0 : Int32))) :
    oCon l Z yy21 jdk_42_method_56_code 2 (some .char) ws ({ frames := 4, cells := 0, slots := 0, locals := 53 } : Room) #[(.ref xa), (.int (0 : Int32))] h0 (Q_rCAU_3_0 Z xa xb xk xfm xz xc0 xc1 xc2 h0) := by
  refine oCon.of (plainFor_of_name pn_2) ?_
  intro p e s m below meth c T X hx hby hml hown hnm hret hlk hZ e0
  have hml : c.maxLocals = 2 := hml
  have K : oKp h0 h0 [] [] := oKp.nil _ _
  refine oWk.cast (g' := (mkF m 0 #[rv xa, iv 0] [])) (by first | rfl | (simp [entryFrame, mkF, argsToLocals, Value.category]; done)) ?_
  refine oWk.st (fun _ kt => zA X hx hby d12_0 rfl rfl rfl kt) ?_
  have Oh := K.old O0 all0
  obtain ⟨T, L2, X, e0, K, st⟩ := (cs14 hw).pure X hx hZ hown e0 K (A := [(.ref xa)]) ⟨rfl, _, _, rfl, E_xa⟩ (rIsL1 l Z a0 hw [] xa xz h0 Oh S_COMPACT_STRINGS hz F_coder_xa) (fun _ _ _ q => q) (W := 0) (by decide) hml (Ls := #[rv xa, iv 0]) rfl (rest := []) rfl rfl hby d12_1
  refine oWk.st (fun _ kt => st _ (zF X hx hby d12_4 rfl rfl ((if0 _ _).trans (teq (by decide)).1) (pc' := 16) rfl (zA X hx hby d12_16 rfl rfl rfl kt))) ?_
  obtain ⟨T, X, e0, st⟩ := getF X hx hZ hown (host := "") (Or.inl (oW hw 22 rfl)) Via.refl e0 F_value_xa (g := (mkF m 17 #[rv xa, iv 0] [(.ref xa)])) rfl rfl (hb hby d12_17)
  refine oWk.st (fun _ kt => st _ (zI X hx hby d12_20 rfl rfl kt)) ?_
  obtain ⟨T, L4, X, e0, K, st⟩ := (cs22 hw).pure X hx hZ hown e0 K (A := [(.ref xb), (.int (0 : Int32))]) rfl (rUC_3_0 l Z a0 hw [] xb xk xfm xc0 xc1 xc2 h0 Oh S__assertionsDisabled S_HI_BYTE_SHIFT S_LO_BYTE_SHIFT S_SIOOBE_FORMATTER hcat hr V_xb) (fun _ _ _ q => q) (W := 0) (by decide) hml (Ls := #[rv xa, iv 0]) rfl (rest := []) rfl rfl hby d12_21
  refine oWk.to (mkF m 24 #[rv xa, iv 0] [(.int xc0)]) (fun _ kt => st _ kt) ?_
  exact oRetN X hx hlk hret (Or.inr (Or.inl rfl)) (show narrow .char (.int xc0) = .int xc0 from congrArg Value.int (oChrU hr)) (hb hby d12_24) (by rw [e0]; exact ⟨rfl, rfl, K⟩) (by decide) (by decide)
def Q_rUCk_3_1 (Z : State) (xb : Addr) (xk : ClassId) (xfm : Value) (xc0 xc1 xc2 : Int32) (h0 : Heap) (v : Option Value) (h : Heap) (L : List Loc) : Prop := v = none ∧ h = h0 ∧ oKp h0 h [] L
theorem rUCk_3_1 (l : Launch) (Z : State) (a0 : Array Value) (hw : oHW a0 Z) (ws : List Jvm.Cond) (xb : Addr) (xk : ClassId) (xfm : Value) (xc0 xc1 xc2 : Int32) (h0 : Heap) (O0 : Ext Z.heap h0) (S_SIOOBE_FORMATTER : Sta Z Z.heap Y2 Y4 Y5 xfm) (hcat : xfm.category = 1) (V_xb : Arv Z h0 xb xk .byte (6 : Int32) [(iu0 xc0), (iu8 xc0), (iu0 xc1), (iu8 xc1), (iu0 xc2), (iu8 xc2)] (.int (0 : Int32))) :
    oCon l Z yy23 jdk_52_method_91_code 2 none ws ({ frames := 2, cells := 0, slots := 0, locals := 27 } : Room) #[(.int (1 : Int32)), (.ref xb)] h0 (Q_rUCk_3_1 Z xb xk xfm xc0 xc1 xc2 h0) := by
  refine oCon.of (plainFor_of_name pn_3) ?_
  intro p e s m below meth c T X hx hby hml hown hnm hret hlk hZ e0
  have hml : c.maxLocals = 2 := hml
  have K : oKp h0 h0 [] [] := oKp.nil _ _
  refine oWk.cast (g' := (mkF m 0 #[iv 1, rv xb] [])) (by first | rfl | (simp [entryFrame, mkF, argsToLocals, Value.category]; done)) ?_
  refine oWk.st (fun _ kt => zI X hx hby d25_0 rfl rfl (zA X hx hby d25_1 rfl rfl rfl kt)) ?_
  have Oh := K.old O0 all0
  obtain ⟨T, L2, X, e0, K, st⟩ := (cs19 hw).pure X hx hZ hown e0 K (A := [(.ref xb)]) rfl (rUL_3 l Z a0 hw [] xb xk xc0 xc1 xc2 h0 Oh V_xb) (fun _ _ _ q => q) (W := 1) (by decide) hml (Ls := #[iv 1, rv xb]) rfl (rest := [(.int (1 : Int32))]) rfl rfl hby d25_2
  refine oWk.st (fun _ kt => st _ kt) ?_
  obtain ⟨T, L4, X, e0, K, st⟩ := (cs20 hw).pure X hx hZ hown e0 K (A := [(.int (1 : Int32)), (.int (3 : Int32))]) rfl (rCkI l Z a0 hw [] (1 : Int32) (3 : Int32) xfm h0 Oh S_SIOOBE_FORMATTER hcat (by decide) (by decide)) (fun _ _ _ q => q) (W := 0) (by decide) hml (Ls := #[iv 1, rv xb]) rfl (rest := []) rfl rfl hby d25_5
  refine oWk.to (mkF m 8 #[iv 1, rv xb] []) (fun _ kt => st _ kt) ?_
  exact oRetV X hx hlk hret (hb hby d25_8) (by rw [e0]; exact ⟨rfl, rfl, K⟩) (by decide) (by decide)
def Q_rUC_3_1 (Z : State) (xb : Addr) (xk : ClassId) (xfm : Value) (xc0 xc1 xc2 : Int32) (h0 : Heap) (v : Option Value) (h : Heap) (L : List Loc) : Prop := v = some (.int xc1) ∧ h = h0 ∧ oKp h0 h [] L
theorem rUC_3_1 (l : Launch) (Z : State) (a0 : Array Value) (hw : oHW a0 Z) (ws : List Jvm.Cond) (xb : Addr) (xk : ClassId) (xfm : Value) (xc0 xc1 xc2 : Int32) (h0 : Heap) (O0 : Ext Z.heap h0) (S__assertionsDisabled : Sta Z Z.heap Y1 Y3 "Z" (.int (1 : Int32))) (S_HI_BYTE_SHIFT : Sta Z Z.heap Y1 "HI_BYTE_SHIFT" "I" (.int (0 : Int32))) (S_LO_BYTE_SHIFT : Sta Z Z.heap Y1 "LO_BYTE_SHIFT" "I" (.int (8 : Int32))) (S_SIOOBE_FORMATTER : Sta Z Z.heap Y2 Y4 Y5 xfm) (hcat : xfm.category = 1) (hr : 0 ≤ xc1.toInt ∧ xc1.toInt < 65536) (V_xb : Arv Z h0 xb xk .byte (6 : Int32) [(iu0 xc0), (iu8 xc0), (iu0 xc1), (iu8 xc1), (iu0 xc2), (iu8 xc2)] (.int (0 : Int32))) :
    oCon l Z yy24 jdk_52_method_83_code 2 (some .char) ws ({ frames := 3, cells := 0, slots := 0, locals := 40 } : Room) #[(.ref xb), (.int (1 : Int32))] h0 (Q_rUC_3_1 Z xb xk xfm xc0 xc1 xc2 h0) := by
  refine oCon.of (plainFor_of_name pn_3) ?_
  intro p e s m below meth c T X hx hby hml hown hnm hret hlk hZ e0
  have hml : c.maxLocals = 2 := hml
  have K : oKp h0 h0 [] [] := oKp.nil _ _
  refine oWk.cast (g' := (mkF m 0 #[rv xb, iv 1] [])) (by first | rfl | (simp [entryFrame, mkF, argsToLocals, Value.category]; done)) ?_
  refine oWk.st (fun _ kt => zI X hx hby d24_0 rfl rfl (zA X hx hby d24_1 rfl rfl rfl kt)) ?_
  have Oh := K.old O0 all0
  obtain ⟨T, L2, X, e0, K, st⟩ := (cs21 hw).pure X hx hZ hown e0 K (A := [(.int (1 : Int32)), (.ref xb)]) rfl (rUCk_3_1 l Z a0 hw [] xb xk xfm xc0 xc1 xc2 h0 Oh S_SIOOBE_FORMATTER hcat V_xb) (fun _ _ _ q => q) (W := 0) (by decide) hml (Ls := #[rv xb, iv 1]) rfl (rest := []) rfl rfl hby d24_2
  refine oWk.st (fun _ kt => st _ (zA X hx hby d24_5 rfl rfl rfl (zI X hx hby d24_6 rfl rfl kt))) ?_
  obtain ⟨T, L4, X, e0, K, st⟩ := (cs9 hw).pure X hx hZ hown e0 K (A := [(.ref xb), (.int (1 : Int32))]) rfl (rGC_3_1 l Z a0 hw [] xb xk xc0 xc1 xc2 h0 Oh S__assertionsDisabled S_HI_BYTE_SHIFT S_LO_BYTE_SHIFT hr V_xb) (fun _ _ _ q => q) (W := 0) (by decide) hml (Ls := #[rv xb, iv 1]) rfl (rest := []) rfl rfl hby d24_7
  refine oWk.to (mkF m 10 #[rv xb, iv 1] [(.int xc1)]) (fun _ kt => st _ kt) ?_
  exact oRetN X hx hlk hret (Or.inr (Or.inl rfl)) (show narrow .char (.int xc1) = .int xc1 from congrArg Value.int (oChrU hr)) (hb hby d24_10) (by rw [e0]; exact ⟨rfl, rfl, K⟩) (by decide) (by decide)
def Q_rCAU_3_1 (Z : State) (xa xb : Addr) (xk : ClassId) (xfm : Value) (xz xc0 xc1 xc2 : Int32) (h0 : Heap) (v : Option Value) (h : Heap) (L : List Loc) : Prop := v = some (.int xc1) ∧ h = h0 ∧ oKp h0 h [] L
theorem rCAU_3_1 (l : Launch) (Z : State) (a0 : Array Value) (hw : oHW a0 Z) (ws : List Jvm.Cond) (xa xb : Addr) (xk : ClassId) (xfm : Value) (xz xc0 xc1 xc2 : Int32) (h0 : Heap) (O0 : Ext Z.heap h0) (S_COMPACT_STRINGS : Sta Z Z.heap Y0 Y6 "Z" (.int xz)) (hz : ¬ xz = (0 : Int32)) (S__assertionsDisabled : Sta Z Z.heap Y1 Y3 "Z" (.int (1 : Int32))) (S_HI_BYTE_SHIFT : Sta Z Z.heap Y1 "HI_BYTE_SHIFT" "I" (.int (0 : Int32))) (S_LO_BYTE_SHIFT : Sta Z Z.heap Y1 "LO_BYTE_SHIFT" "I" (.int (8 : Int32))) (S_SIOOBE_FORMATTER : Sta Z Z.heap Y2 Y4 Y5 xfm) (hcat : xfm.category = 1) (hr : 0 ≤ xc1.toInt ∧ xc1.toInt < 65536) (E_xa : Exa Z h0 xa Y0) (F_coder_xa : Fld Z h0 xa Y0 "coder" "B" (.int (1 : Int32))) (F_value_xa : Fld Z h0 xa Y0 "value" "[B" (.ref xb)) (V_xb : Arv Z h0 xb xk .byte (6 : Int32) [(iu0 xc0), (iu8 xc0), (iu0 xc1), (iu8 xc1), (iu0 xc2), (iu8 xc2)] (.int (0 : Int32))) :
    oCon l Z yy21 jdk_42_method_56_code 2 (some .char) ws ({ frames := 4, cells := 0, slots := 0, locals := 53 } : Room) #[(.ref xa), (.int (1 : Int32))] h0 (Q_rCAU_3_1 Z xa xb xk xfm xz xc0 xc1 xc2 h0) := by
  refine oCon.of (plainFor_of_name pn_2) ?_
  intro p e s m below meth c T X hx hby hml hown hnm hret hlk hZ e0
  have hml : c.maxLocals = 2 := hml
  have K : oKp h0 h0 [] [] := oKp.nil _ _
  refine oWk.cast (g' := (mkF m 0 #[rv xa, iv 1] [])) (by first | rfl | (simp [entryFrame, mkF, argsToLocals, Value.category]; done)) ?_
  refine oWk.st (fun _ kt => zA X hx hby d12_0 rfl rfl rfl kt) ?_
  have Oh := K.old O0 all0
  obtain ⟨T, L2, X, e0, K, st⟩ := (cs14 hw).pure X hx hZ hown e0 K (A := [(.ref xa)]) ⟨rfl, _, _, rfl, E_xa⟩ (rIsL1 l Z a0 hw [] xa xz h0 Oh S_COMPACT_STRINGS hz F_coder_xa) (fun _ _ _ q => q) (W := 0) (by decide) hml (Ls := #[rv xa, iv 1]) rfl (rest := []) rfl rfl hby d12_1
  refine oWk.st (fun _ kt => st _ (zF X hx hby d12_4 rfl rfl ((if0 _ _).trans (teq (by decide)).1) (pc' := 16) rfl (zA X hx hby d12_16 rfl rfl rfl kt))) ?_
  obtain ⟨T, X, e0, st⟩ := getF X hx hZ hown (host := "") (Or.inl (oW hw 22 rfl)) Via.refl e0 F_value_xa (g := (mkF m 17 #[rv xa, iv 1] [(.ref xa)])) rfl rfl (hb hby d12_17)
  refine oWk.st (fun _ kt => st _ (zI X hx hby d12_20 rfl rfl kt)) ?_
  obtain ⟨T, L4, X, e0, K, st⟩ := (cs22 hw).pure X hx hZ hown e0 K (A := [(.ref xb), (.int (1 : Int32))]) rfl (rUC_3_1 l Z a0 hw [] xb xk xfm xc0 xc1 xc2 h0 Oh S__assertionsDisabled S_HI_BYTE_SHIFT S_LO_BYTE_SHIFT S_SIOOBE_FORMATTER hcat hr V_xb) (fun _ _ _ q => q) (W := 0) (by decide) hml (Ls := #[rv xa, iv 1]) rfl (rest := []) rfl rfl hby d12_21
  refine oWk.to (mkF m 24 #[rv xa, iv 1] [(.int xc1)]) (fun _ kt => st _ kt) ?_
  exact oRetN X hx hlk hret (Or.inr (Or.inl rfl)) (show narrow .char (.int xc1) = .int xc1 from congrArg Value.int (oChrU hr)) (hb hby d12_24) (by rw [e0]; exact ⟨rfl, rfl, K⟩) (by decide) (by decide)
def Q_rUCk_3_2 (Z : State) (xb : Addr) (xk : ClassId) (xfm : Value) (xc0 xc1 xc2 : Int32) (h0 : Heap) (v : Option Value) (h : Heap) (L : List Loc) : Prop := v = none ∧ h = h0 ∧ oKp h0 h [] L
theorem rUCk_3_2 (l : Launch) (Z : State) (a0 : Array Value) (hw : oHW a0 Z) (ws : List Jvm.Cond) (xb : Addr) (xk : ClassId) (xfm : Value) (xc0 xc1 xc2 : Int32) (h0 : Heap) (O0 : Ext Z.heap h0) (S_SIOOBE_FORMATTER : Sta Z Z.heap Y2 Y4 Y5 xfm) (hcat : xfm.category = 1) (V_xb : Arv Z h0 xb xk .byte (6 : Int32) [(iu0 xc0), (iu8 xc0), (iu0 xc1), (iu8 xc1), (iu0 xc2), (iu8 xc2)] (.int (0 : Int32))) :
    oCon l Z yy23 jdk_52_method_91_code 2 none ws ({ frames := 2, cells := 0, slots := 0, locals := 27 } : Room) #[(.int (2 : Int32)), (.ref xb)] h0 (Q_rUCk_3_2 Z xb xk xfm xc0 xc1 xc2 h0) := by
  refine oCon.of (plainFor_of_name pn_3) ?_
  intro p e s m below meth c T X hx hby hml hown hnm hret hlk hZ e0
  have hml : c.maxLocals = 2 := hml
  have K : oKp h0 h0 [] [] := oKp.nil _ _
  refine oWk.cast (g' := (mkF m 0 #[iv 2, rv xb] [])) (by first | rfl | (simp [entryFrame, mkF, argsToLocals, Value.category]; done)) ?_
  refine oWk.st (fun _ kt => zI X hx hby d25_0 rfl rfl (zA X hx hby d25_1 rfl rfl rfl kt)) ?_
  have Oh := K.old O0 all0
  obtain ⟨T, L2, X, e0, K, st⟩ := (cs19 hw).pure X hx hZ hown e0 K (A := [(.ref xb)]) rfl (rUL_3 l Z a0 hw [] xb xk xc0 xc1 xc2 h0 Oh V_xb) (fun _ _ _ q => q) (W := 1) (by decide) hml (Ls := #[iv 2, rv xb]) rfl (rest := [(.int (2 : Int32))]) rfl rfl hby d25_2
  refine oWk.st (fun _ kt => st _ kt) ?_
  obtain ⟨T, L4, X, e0, K, st⟩ := (cs20 hw).pure X hx hZ hown e0 K (A := [(.int (2 : Int32)), (.int (3 : Int32))]) rfl (rCkI l Z a0 hw [] (2 : Int32) (3 : Int32) xfm h0 Oh S_SIOOBE_FORMATTER hcat (by decide) (by decide)) (fun _ _ _ q => q) (W := 0) (by decide) hml (Ls := #[iv 2, rv xb]) rfl (rest := []) rfl rfl hby d25_5
  refine oWk.to (mkF m 8 #[iv 2, rv xb] []) (fun _ kt => st _ kt) ?_
  exact oRetV X hx hlk hret (hb hby d25_8) (by rw [e0]; exact ⟨rfl, rfl, K⟩) (by decide) (by decide)
def Q_rUC_3_2 (Z : State) (xb : Addr) (xk : ClassId) (xfm : Value) (xc0 xc1 xc2 : Int32) (h0 : Heap) (v : Option Value) (h : Heap) (L : List Loc) : Prop := v = some (.int xc2) ∧ h = h0 ∧ oKp h0 h [] L
theorem rUC_3_2 (l : Launch) (Z : State) (a0 : Array Value) (hw : oHW a0 Z) (ws : List Jvm.Cond) (xb : Addr) (xk : ClassId) (xfm : Value) (xc0 xc1 xc2 : Int32) (h0 : Heap) (O0 : Ext Z.heap h0) (S__assertionsDisabled : Sta Z Z.heap Y1 Y3 "Z" (.int (1 : Int32))) (S_HI_BYTE_SHIFT : Sta Z Z.heap Y1 "HI_BYTE_SHIFT" "I" (.int (0 : Int32))) (S_LO_BYTE_SHIFT : Sta Z Z.heap Y1 "LO_BYTE_SHIFT" "I" (.int (8 : Int32))) (S_SIOOBE_FORMATTER : Sta Z Z.heap Y2 Y4 Y5 xfm) (hcat : xfm.category = 1) (hr : 0 ≤ xc2.toInt ∧ xc2.toInt < 65536) (V_xb : Arv Z h0 xb xk .byte (6 : Int32) [(iu0 xc0), (iu8 xc0), (iu0 xc1), (iu8 xc1), (iu0 xc2), (iu8 xc2)] (.int (0 : Int32))) :
    oCon l Z yy24 jdk_52_method_83_code 2 (some .char) ws ({ frames := 3, cells := 0, slots := 0, locals := 40 } : Room) #[(.ref xb), (.int (2 : Int32))] h0 (Q_rUC_3_2 Z xb xk xfm xc0 xc1 xc2 h0) := by
  refine oCon.of (plainFor_of_name pn_3) ?_
  intro p e s m below meth c T X hx hby hml hown hnm hret hlk hZ e0
  have hml : c.maxLocals = 2 := hml
  have K : oKp h0 h0 [] [] := oKp.nil _ _
  refine oWk.cast (g' := (mkF m 0 #[rv xb, iv 2] [])) (by first | rfl | (simp [entryFrame, mkF, argsToLocals, Value.category]; done)) ?_
  refine oWk.st (fun _ kt => zI X hx hby d24_0 rfl rfl (zA X hx hby d24_1 rfl rfl rfl kt)) ?_
  have Oh := K.old O0 all0
  obtain ⟨T, L2, X, e0, K, st⟩ := (cs21 hw).pure X hx hZ hown e0 K (A := [(.int (2 : Int32)), (.ref xb)]) rfl (rUCk_3_2 l Z a0 hw [] xb xk xfm xc0 xc1 xc2 h0 Oh S_SIOOBE_FORMATTER hcat V_xb) (fun _ _ _ q => q) (W := 0) (by decide) hml (Ls := #[rv xb, iv 2]) rfl (rest := []) rfl rfl hby d24_2
  refine oWk.st (fun _ kt => st _ (zA X hx hby d24_5 rfl rfl rfl (zI X hx hby d24_6 rfl rfl kt))) ?_
  obtain ⟨T, L4, X, e0, K, st⟩ := (cs9 hw).pure X hx hZ hown e0 K (A := [(.ref xb), (.int (2 : Int32))]) rfl (rGC_3_2 l Z a0 hw [] xb xk xc0 xc1 xc2 h0 Oh S__assertionsDisabled S_HI_BYTE_SHIFT S_LO_BYTE_SHIFT hr V_xb) (fun _ _ _ q => q) (W := 0) (by decide) hml (Ls := #[rv xb, iv 2]) rfl (rest := []) rfl rfl hby d24_7
  refine oWk.to (mkF m 10 #[rv xb, iv 2] [(.int xc2)]) (fun _ kt => st _ kt) ?_
  exact oRetN X hx hlk hret (Or.inr (Or.inl rfl)) (show narrow .char (.int xc2) = .int xc2 from congrArg Value.int (oChrU hr)) (hb hby d24_10) (by rw [e0]; exact ⟨rfl, rfl, K⟩) (by decide) (by decide)
def Q_rCAU_3_2 (Z : State) (xa xb : Addr) (xk : ClassId) (xfm : Value) (xz xc0 xc1 xc2 : Int32) (h0 : Heap) (v : Option Value) (h : Heap) (L : List Loc) : Prop := v = some (.int xc2) ∧ h = h0 ∧ oKp h0 h [] L
theorem rCAU_3_2 (l : Launch) (Z : State) (a0 : Array Value) (hw : oHW a0 Z) (ws : List Jvm.Cond) (xa xb : Addr) (xk : ClassId) (xfm : Value) (xz xc0 xc1 xc2 : Int32) (h0 : Heap) (O0 : Ext Z.heap h0) (S_COMPACT_STRINGS : Sta Z Z.heap Y0 Y6 "Z" (.int xz)) (hz : ¬ xz = (0 : Int32)) (S__assertionsDisabled : Sta Z Z.heap Y1 Y3 "Z" (.int (1 : Int32))) (S_HI_BYTE_SHIFT : Sta Z Z.heap Y1 "HI_BYTE_SHIFT" "I" (.int (0 : Int32))) (S_LO_BYTE_SHIFT : Sta Z Z.heap Y1 "LO_BYTE_SHIFT" "I" (.int (8 : Int32))) (S_SIOOBE_FORMATTER : Sta Z Z.heap Y2 Y4 Y5 xfm) (hcat : xfm.category = 1) (hr : 0 ≤ xc2.toInt ∧ xc2.toInt < 65536) (E_xa : Exa Z h0 xa Y0) (F_coder_xa : Fld Z h0 xa Y0 "coder" "B" (.int (1 : Int32))) (F_value_xa : Fld Z h0 xa Y0 "value" "[B" (.ref xb)) (V_xb : Arv Z h0 xb xk .byte (6 : Int32) [(iu0 xc0), (iu8 xc0), (iu0 xc1), (iu8 xc1), (iu0 xc2), (iu8 xc2)] (.int (0 : Int32))) :
    oCon l Z yy21 jdk_42_method_56_code 2 (some .char) ws ({ frames := 4, cells := 0, slots := 0, locals := 53 } : Room) #[(.ref xa), (.int (2 : Int32))] h0 (Q_rCAU_3_2 Z xa xb xk xfm xz xc0 xc1 xc2 h0) := by
  refine oCon.of (plainFor_of_name pn_2) ?_
  intro p e s m below meth c T X hx hby hml hown hnm hret hlk hZ e0
  have hml : c.maxLocals = 2 := hml
  have K : oKp h0 h0 [] [] := oKp.nil _ _
  refine oWk.cast (g' := (mkF m 0 #[rv xa, iv 2] [])) (by first | rfl | (simp [entryFrame, mkF, argsToLocals, Value.category]; done)) ?_
  refine oWk.st (fun _ kt => zA X hx hby d12_0 rfl rfl rfl kt) ?_
  have Oh := K.old O0 all0
  obtain ⟨T, L2, X, e0, K, st⟩ := (cs14 hw).pure X hx hZ hown e0 K (A := [(.ref xa)]) ⟨rfl, _, _, rfl, E_xa⟩ (rIsL1 l Z a0 hw [] xa xz h0 Oh S_COMPACT_STRINGS hz F_coder_xa) (fun _ _ _ q => q) (W := 0) (by decide) hml (Ls := #[rv xa, iv 2]) rfl (rest := []) rfl rfl hby d12_1
  refine oWk.st (fun _ kt => st _ (zF X hx hby d12_4 rfl rfl ((if0 _ _).trans (teq (by decide)).1) (pc' := 16) rfl (zA X hx hby d12_16 rfl rfl rfl kt))) ?_
  obtain ⟨T, X, e0, st⟩ := getF X hx hZ hown (host := "") (Or.inl (oW hw 22 rfl)) Via.refl e0 F_value_xa (g := (mkF m 17 #[rv xa, iv 2] [(.ref xa)])) rfl rfl (hb hby d12_17)
  refine oWk.st (fun _ kt => st _ (zI X hx hby d12_20 rfl rfl kt)) ?_
  obtain ⟨T, L4, X, e0, K, st⟩ := (cs22 hw).pure X hx hZ hown e0 K (A := [(.ref xb), (.int (2 : Int32))]) rfl (rUC_3_2 l Z a0 hw [] xb xk xfm xc0 xc1 xc2 h0 Oh S__assertionsDisabled S_HI_BYTE_SHIFT S_LO_BYTE_SHIFT S_SIOOBE_FORMATTER hcat hr V_xb) (fun _ _ _ q => q) (W := 0) (by decide) hml (Ls := #[rv xa, iv 2]) rfl (rest := []) rfl rfl hby d12_21
  refine oWk.to (mkF m 24 #[rv xa, iv 2] [(.int xc2)]) (fun _ kt => st _ kt) ?_
  exact oRetN X hx hlk hret (Or.inr (Or.inl rfl)) (show narrow .char (.int xc2) = .int xc2 from congrArg Value.int (oChrU hr)) (hb hby d12_24) (by rw [e0]; exact ⟨rfl, rfl, K⟩) (by decide) (by decide)
def Q_rSSU_3 (Z : State) (xa xb : Addr) (xk : ClassId) (xfm : Value) (xz xc0 xc1 xc2 : Int32) (h0 : Heap) (v : Option Value) (h : Heap) (L : List Loc) : Prop := v = some (.int (oBi (¬ xc2 = (46 : Int32) ∧ ¬ xc2 = (32 : Int32) ∧ oPl xc0 ∧ oPl xc1 ∧ oPl xc2))) ∧ h = h0 ∧ oKp h0 h [] L
theorem rSSU_3 (l : Launch) (Z : State) (a0 : Array Value) (hw : oHW a0 Z) (ws : List Jvm.Cond) (xa xb : Addr) (xk : ClassId) (xfm : Value) (xz xc0 xc1 xc2 : Int32) (h0 : Heap) (O0 : Ext Z.heap h0) (S_COMPACT_STRINGS : Sta Z Z.heap Y0 Y6 "Z" (.int xz)) (hz : ¬ xz = (0 : Int32)) (S__assertionsDisabled : Sta Z Z.heap Y1 Y3 "Z" (.int (1 : Int32))) (S_HI_BYTE_SHIFT : Sta Z Z.heap Y1 "HI_BYTE_SHIFT" "I" (.int (0 : Int32))) (S_LO_BYTE_SHIFT : Sta Z Z.heap Y1 "LO_BYTE_SHIFT" "I" (.int (8 : Int32))) (S_SIOOBE_FORMATTER : Sta Z Z.heap Y2 Y4 Y5 xfm) (hcat : xfm.category = 1) (E_xa : Exa Z h0 xa Y0) (F_coder_xa : Fld Z h0 xa Y0 "coder" "B" (.int (1 : Int32))) (F_value_xa : Fld Z h0 xa Y0 "value" "[B" (.ref xb)) (V_xb : Arv Z h0 xb xk .byte (6 : Int32) [(iu0 xc0), (iu8 xc0), (iu0 xc1), (iu8 xc1), (iu0 xc2), (iu8 xc2)] (.int (0 : Int32))) (hr0 : 0 ≤ xc0.toInt ∧ xc0.toInt < 65536) (hr1 : 0 ≤ xc1.toInt ∧ xc1.toInt < 65536) (hr2 : 0 ≤ xc2.toInt ∧ xc2.toInt < 65536) :
    oCon l Z yy14 prog_11_method_4_code 4 (some .boolean) ws ({ frames := 5, cells := 0, slots := 0, locals := 66 } : Room) #[(.ref xa)] h0 (Q_rSSU_3 Z xa xb xk xfm xz xc0 xc1 xc2 h0) := by
  refine oCon.of (plainFor_of_name pn_4) ?_
  intro p e s m below meth c T X hx hby hml hown hnm hret hlk hZ e0
  have hml : c.maxLocals = 4 := hml
  have K : oKp h0 h0 [] [] := oKp.nil _ _
  refine oWk.cast (g' := (mkF m 0 #[rv xa, uu, uu, uu] [])) (by first | rfl | (simp [entryFrame, mkF, argsToLocals, Value.category]; done)) ?_
  refine oWk.st (fun _ kt => zA X hx hby d4_0 rfl rfl rfl kt) ?_
  have Oh := K.old O0 all0
  obtain ⟨T, L2, X, e0, K, st⟩ := (cs10 hw).pure X hx hZ hown e0 K (A := [(.ref xa)]) ⟨rfl, _, _, rfl, E_xa⟩ (rEmU_3 l Z a0 hw [] xa xb xk xc0 xc1 xc2 h0 Oh F_value_xa V_xb) (fun _ _ _ q => q) (W := 0) (by decide) hml (Ls := #[rv xa, uu, uu, uu]) rfl (rest := []) rfl rfl hby d4_1
  refine oWk.st (fun _ kt => st _ (zF X hx hby d4_4 rfl rfl ((if0 _ _).trans (teq (by decide)).1) (pc' := 9) rfl (zA X hx hby d4_9 rfl rfl rfl (zA X hx hby d4_10 rfl rfl rfl kt)))) ?_
  obtain ⟨T, L4, X, e0, K, st⟩ := (cs16 hw).pure X hx hZ hown e0 K (A := [(.ref xa)]) ⟨rfl, _, _, rfl, E_xa⟩ (rLnU_3 l Z a0 hw [] xa xb xk xz xc0 xc1 xc2 h0 Oh S_COMPACT_STRINGS hz E_xa F_coder_xa F_value_xa V_xb) (fun _ _ _ q => q) (W := 1) (by decide) hml (Ls := #[rv xa, uu, uu, uu]) rfl (rest := [(.ref xa)]) rfl rfl hby d4_11
  refine oWk.st (fun _ kt => st _ (zK X hx hby d4_14 rfl (XS.isub X.here hx rfl (hb hby d4_15) rfl kt))) ?_
  obtain ⟨T, L6, X, e0, K, st⟩ := (cs17 hw).pure X hx hZ hown e0 K (A := [(.ref xa), (.int (2 : Int32))]) ⟨rfl, _, _, rfl, E_xa⟩ (rCAU_3_2 l Z a0 hw [] xa xb xk xfm xz xc0 xc1 xc2 h0 Oh S_COMPACT_STRINGS hz S__assertionsDisabled S_HI_BYTE_SHIFT S_LO_BYTE_SHIFT S_SIOOBE_FORMATTER hcat hr2 E_xa F_coder_xa F_value_xa V_xb) (fun _ _ _ q => q) (W := 0) (by decide) hml (Ls := #[rv xa, uu, uu, uu]) rfl (rest := []) rfl rfl hby d4_16
  refine oWk.to (mkF m 23 #[rv xa, iv xc2, uu, uu] [(.int xc2), (.int 46)]) (fun _ kt => st _ (zSn X hx hby d4_19 rfl rfl (l' := #[rv xa, iv xc2, uu, uu]) rfl (zL X hx hby d4_20 rfl (zI X hx hby d4_22 rfl rfl kt)))) ?_
  by_cases hq46 : (46 : Int32) = xc2
  · refine oWk.to (mkF m 32 #[rv xa, iv xc2, uu, uu] []) (fun _ kt => zY X hx hby d4_23 rfl rfl (teq hq46).1 (pc' := 32) rfl kt) ?_
    refine oWk.to (mkF m 33 #[rv xa, iv xc2, uu, uu] [(.int 0)]) (fun _ kt => zK X hx hby d4_32 rfl kt) ?_
    exact oRetZ X hx hlk hret (hb hby d4_33) (Or.inl rfl) (by rw [e0]; exact ⟨(by rw [oBi_f (fun q => q.1 hq46.symm)]), rfl, K⟩) (by decide) (by decide)
  · refine oWk.to (mkF m 26 #[rv xa, iv xc2, uu, uu] []) (fun _ kt => zN X hx hby d4_23 rfl rfl (feq hq46).1 kt) ?_
    refine oWk.to (mkF m 29 #[rv xa, iv xc2, uu, uu] [(.int xc2), (.int 32)]) (fun _ kt => zL X hx hby d4_26 rfl (zI X hx hby d4_28 rfl rfl kt)) ?_
    by_cases hq32 : (32 : Int32) = xc2
    · refine oWk.to (mkF m 32 #[rv xa, iv xc2, uu, uu] []) (fun _ kt => zN X hx hby d4_29 rfl rfl (teq hq32).2 kt) ?_
      refine oWk.to (mkF m 33 #[rv xa, iv xc2, uu, uu] [(.int 0)]) (fun _ kt => zK X hx hby d4_32 rfl kt) ?_
      exact oRetZ X hx hlk hret (hb hby d4_33) (Or.inl rfl) (by rw [e0]; exact ⟨(by rw [oBi_f (fun q => q.2.1 hq32.symm)]), rfl, K⟩) (by decide) (by decide)
    · refine oWk.to (mkF m 34 #[rv xa, iv xc2, uu, uu] []) (fun _ kt => zY X hx hby d4_29 rfl rfl (feq hq32).2 (pc' := 34) rfl kt) ?_
      refine oWk.st (fun _ kt => zK X hx hby d4_34 rfl (zSn X hx hby d4_35 rfl rfl (l' := #[rv xa, iv xc2, iv 0, uu]) rfl (zI X hx hby d4_36 rfl rfl (zA X hx hby d4_37 rfl rfl rfl kt)))) ?_
      obtain ⟨T, L8, X, e0, K, st⟩ := (cs16 hw).pure X hx hZ hown e0 K (A := [(.ref xa)]) ⟨rfl, _, _, rfl, E_xa⟩ (rLnU_3 l Z a0 hw [] xa xb xk xz xc0 xc1 xc2 h0 Oh S_COMPACT_STRINGS hz E_xa F_coder_xa F_value_xa V_xb) (fun _ _ _ q => q) (W := 1) (by decide) hml (Ls := #[rv xa, iv xc2, iv 0, uu]) rfl (rest := [(.int (0 : Int32))]) rfl rfl hby d4_38
      refine oWk.st (fun _ kt => st _ (zN X hx hby d4_41 rfl rfl (tlt (by decide)).2.1 (zA X hx hby d4_44 rfl rfl rfl (zI X hx hby d4_45 rfl rfl kt)))) ?_
      obtain ⟨T, L10, X, e0, K, st⟩ := (cs17 hw).pure X hx hZ hown e0 K (A := [(.ref xa), (.int (0 : Int32))]) ⟨rfl, _, _, rfl, E_xa⟩ (rCAU_3_0 l Z a0 hw [] xa xb xk xfm xz xc0 xc1 xc2 h0 Oh S_COMPACT_STRINGS hz S__assertionsDisabled S_HI_BYTE_SHIFT S_LO_BYTE_SHIFT S_SIOOBE_FORMATTER hcat hr0 E_xa F_coder_xa F_value_xa V_xb) (fun _ _ _ q => q) (W := 0) (by decide) hml (Ls := #[rv xa, iv xc2, iv 0, uu]) rfl (rest := []) rfl rfl hby d4_46
      refine oWk.to (mkF m 53 #[rv xa, iv xc2, iv 0, iv xc0] [(.int xc0), (.int 47)]) (fun _ kt => st _ (zSn X hx hby d4_49 rfl rfl (l' := #[rv xa, iv xc2, iv 0, iv xc0]) rfl (zL X hx hby d4_50 rfl (zI X hx hby d4_52 rfl rfl kt)))) ?_
      by_cases h47_0 : (47 : Int32) = xc0
      · refine oWk.to (mkF m 75 #[rv xa, iv xc2, iv 0, iv xc0] []) (fun _ kt => zY X hx hby d4_53 rfl rfl (teq h47_0).1 (pc' := 75) rfl kt) ?_
        refine oWk.to (mkF m 76 #[rv xa, iv xc2, iv 0, iv xc0] [(.int 0)]) (fun _ kt => zK X hx hby d4_75 rfl kt) ?_
        exact oRetZ X hx hlk hret (hb hby d4_76) (Or.inl rfl) (by rw [e0]; exact ⟨(by rw [oBi_f (fun q => q.2.2.1.1 h47_0.symm)]), rfl, K⟩) (by decide) (by decide)
      · refine oWk.to (mkF m 56 #[rv xa, iv xc2, iv 0, iv xc0] []) (fun _ kt => zN X hx hby d4_53 rfl rfl (feq h47_0).1 kt) ?_
        refine oWk.to (mkF m 59 #[rv xa, iv xc2, iv 0, iv xc0] [(.int xc0), (.int 92)]) (fun _ kt => zL X hx hby d4_56 rfl (zI X hx hby d4_58 rfl rfl kt)) ?_
        by_cases h92_0 : (92 : Int32) = xc0
        · refine oWk.to (mkF m 75 #[rv xa, iv xc2, iv 0, iv xc0] []) (fun _ kt => zY X hx hby d4_59 rfl rfl (teq h92_0).1 (pc' := 75) rfl kt) ?_
          refine oWk.to (mkF m 76 #[rv xa, iv xc2, iv 0, iv xc0] [(.int 0)]) (fun _ kt => zK X hx hby d4_75 rfl kt) ?_
          exact oRetZ X hx hlk hret (hb hby d4_76) (Or.inl rfl) (by rw [e0]; exact ⟨(by rw [oBi_f (fun q => q.2.2.1.2.1 h92_0.symm)]), rfl, K⟩) (by decide) (by decide)
        · refine oWk.to (mkF m 62 #[rv xa, iv xc2, iv 0, iv xc0] []) (fun _ kt => zN X hx hby d4_59 rfl rfl (feq h92_0).1 kt) ?_
          refine oWk.to (mkF m 65 #[rv xa, iv xc2, iv 0, iv xc0] [(.int xc0), (.int 58)]) (fun _ kt => zL X hx hby d4_62 rfl (zI X hx hby d4_64 rfl rfl kt)) ?_
          by_cases h58_0 : (58 : Int32) = xc0
          · refine oWk.to (mkF m 75 #[rv xa, iv xc2, iv 0, iv xc0] []) (fun _ kt => zY X hx hby d4_65 rfl rfl (teq h58_0).1 (pc' := 75) rfl kt) ?_
            refine oWk.to (mkF m 76 #[rv xa, iv xc2, iv 0, iv xc0] [(.int 0)]) (fun _ kt => zK X hx hby d4_75 rfl kt) ?_
            exact oRetZ X hx hlk hret (hb hby d4_76) (Or.inl rfl) (by rw [e0]; exact ⟨(by rw [oBi_f (fun q => q.2.2.1.2.2.1 h58_0.symm)]), rfl, K⟩) (by decide) (by decide)
          · refine oWk.to (mkF m 68 #[rv xa, iv xc2, iv 0, iv xc0] []) (fun _ kt => zN X hx hby d4_65 rfl rfl (feq h58_0).1 kt) ?_
            refine oWk.st (fun _ kt => zI X hx hby d4_68 rfl rfl kt) ?_
            obtain ⟨T, L12, X, e0, K, st⟩ := (cs18 hw).pure X hx hZ hown e0 K (A := [(.int xc0)]) rfl (rIso l Z a0 hw [] xc0 h0 Oh hr0) (fun _ _ _ q => q) (W := 0) (by decide) hml (Ls := #[rv xa, iv xc2, iv 0, iv xc0]) rfl (rest := []) rfl rfl hby d4_69
            refine oWk.to (mkF m 72 #[rv xa, iv xc2, iv 0, iv xc0] [(.int (oBi (oIso xc0)))]) (fun _ kt => st _ kt) ?_
            by_cases hio_0 : oIso xc0
            · refine oWk.to (mkF m 75 #[rv xa, iv xc2, iv 0, iv xc0] []) (fun _ kt => zH X hx hby d4_72 rfl rfl ((if0 _ _).trans (feq (oBi_ne hio_0)).1) kt) ?_
              refine oWk.to (mkF m 76 #[rv xa, iv xc2, iv 0, iv xc0] [(.int 0)]) (fun _ kt => zK X hx hby d4_75 rfl kt) ?_
              exact oRetZ X hx hlk hret (hb hby d4_76) (Or.inl rfl) (by rw [e0]; exact ⟨(by rw [oBi_f (fun q => q.2.2.1.2.2.2 hio_0)]), rfl, K⟩) (by decide) (by decide)
            · refine oWk.to (mkF m 77 #[rv xa, iv xc2, iv 0, iv xc0] []) (fun _ kt => zF X hx hby d4_72 rfl rfl ((if0 _ _).trans (teq (oBi_f hio_0)).1) (pc' := 77) rfl kt) ?_
              refine oWk.st (fun _ kt => zC X hx hby d4_77 rfl rfl (l' := #[rv xa, iv xc2, iv ((0 : Int32) + (1 : Int32)), iv xc0]) rfl (zG X hx hby d4_80 rfl (pc' := 36) rfl (zI X hx hby d4_36 rfl rfl (zA X hx hby d4_37 rfl rfl rfl kt)))) ?_
              obtain ⟨T, L14, X, e0, K, st⟩ := (cs16 hw).pure X hx hZ hown e0 K (A := [(.ref xa)]) ⟨rfl, _, _, rfl, E_xa⟩ (rLnU_3 l Z a0 hw [] xa xb xk xz xc0 xc1 xc2 h0 Oh S_COMPACT_STRINGS hz E_xa F_coder_xa F_value_xa V_xb) (fun _ _ _ q => q) (W := 1) (by decide) hml (Ls := #[rv xa, iv xc2, iv 1, iv xc0]) rfl (rest := [(.int (1 : Int32))]) rfl rfl hby d4_38
              refine oWk.st (fun _ kt => st _ (zN X hx hby d4_41 rfl rfl (tlt (by decide)).2.1 (zA X hx hby d4_44 rfl rfl rfl (zI X hx hby d4_45 rfl rfl kt)))) ?_
              obtain ⟨T, L16, X, e0, K, st⟩ := (cs17 hw).pure X hx hZ hown e0 K (A := [(.ref xa), (.int (1 : Int32))]) ⟨rfl, _, _, rfl, E_xa⟩ (rCAU_3_1 l Z a0 hw [] xa xb xk xfm xz xc0 xc1 xc2 h0 Oh S_COMPACT_STRINGS hz S__assertionsDisabled S_HI_BYTE_SHIFT S_LO_BYTE_SHIFT S_SIOOBE_FORMATTER hcat hr1 E_xa F_coder_xa F_value_xa V_xb) (fun _ _ _ q => q) (W := 0) (by decide) hml (Ls := #[rv xa, iv xc2, iv 1, iv xc0]) rfl (rest := []) rfl rfl hby d4_46
              refine oWk.to (mkF m 53 #[rv xa, iv xc2, iv 1, iv xc1] [(.int xc1), (.int 47)]) (fun _ kt => st _ (zSn X hx hby d4_49 rfl rfl (l' := #[rv xa, iv xc2, iv 1, iv xc1]) rfl (zL X hx hby d4_50 rfl (zI X hx hby d4_52 rfl rfl kt)))) ?_
              by_cases h47_1 : (47 : Int32) = xc1
              · refine oWk.to (mkF m 75 #[rv xa, iv xc2, iv 1, iv xc1] []) (fun _ kt => zY X hx hby d4_53 rfl rfl (teq h47_1).1 (pc' := 75) rfl kt) ?_
                refine oWk.to (mkF m 76 #[rv xa, iv xc2, iv 1, iv xc1] [(.int 0)]) (fun _ kt => zK X hx hby d4_75 rfl kt) ?_
                exact oRetZ X hx hlk hret (hb hby d4_76) (Or.inl rfl) (by rw [e0]; exact ⟨(by rw [oBi_f (fun q => q.2.2.2.1.1 h47_1.symm)]), rfl, K⟩) (by decide) (by decide)
              · refine oWk.to (mkF m 56 #[rv xa, iv xc2, iv 1, iv xc1] []) (fun _ kt => zN X hx hby d4_53 rfl rfl (feq h47_1).1 kt) ?_
                refine oWk.to (mkF m 59 #[rv xa, iv xc2, iv 1, iv xc1] [(.int xc1), (.int 92)]) (fun _ kt => zL X hx hby d4_56 rfl (zI X hx hby d4_58 rfl rfl kt)) ?_
                by_cases h92_1 : (92 : Int32) = xc1
                · refine oWk.to (mkF m 75 #[rv xa, iv xc2, iv 1, iv xc1] []) (fun _ kt => zY X hx hby d4_59 rfl rfl (teq h92_1).1 (pc' := 75) rfl kt) ?_
                  refine oWk.to (mkF m 76 #[rv xa, iv xc2, iv 1, iv xc1] [(.int 0)]) (fun _ kt => zK X hx hby d4_75 rfl kt) ?_
                  exact oRetZ X hx hlk hret (hb hby d4_76) (Or.inl rfl) (by rw [e0]; exact ⟨(by rw [oBi_f (fun q => q.2.2.2.1.2.1 h92_1.symm)]), rfl, K⟩) (by decide) (by decide)
                · refine oWk.to (mkF m 62 #[rv xa, iv xc2, iv 1, iv xc1] []) (fun _ kt => zN X hx hby d4_59 rfl rfl (feq h92_1).1 kt) ?_
                  refine oWk.to (mkF m 65 #[rv xa, iv xc2, iv 1, iv xc1] [(.int xc1), (.int 58)]) (fun _ kt => zL X hx hby d4_62 rfl (zI X hx hby d4_64 rfl rfl kt)) ?_
                  by_cases h58_1 : (58 : Int32) = xc1
                  · refine oWk.to (mkF m 75 #[rv xa, iv xc2, iv 1, iv xc1] []) (fun _ kt => zY X hx hby d4_65 rfl rfl (teq h58_1).1 (pc' := 75) rfl kt) ?_
                    refine oWk.to (mkF m 76 #[rv xa, iv xc2, iv 1, iv xc1] [(.int 0)]) (fun _ kt => zK X hx hby d4_75 rfl kt) ?_
                    exact oRetZ X hx hlk hret (hb hby d4_76) (Or.inl rfl) (by rw [e0]; exact ⟨(by rw [oBi_f (fun q => q.2.2.2.1.2.2.1 h58_1.symm)]), rfl, K⟩) (by decide) (by decide)
                  · refine oWk.to (mkF m 68 #[rv xa, iv xc2, iv 1, iv xc1] []) (fun _ kt => zN X hx hby d4_65 rfl rfl (feq h58_1).1 kt) ?_
                    refine oWk.st (fun _ kt => zI X hx hby d4_68 rfl rfl kt) ?_
                    obtain ⟨T, L18, X, e0, K, st⟩ := (cs18 hw).pure X hx hZ hown e0 K (A := [(.int xc1)]) rfl (rIso l Z a0 hw [] xc1 h0 Oh hr1) (fun _ _ _ q => q) (W := 0) (by decide) hml (Ls := #[rv xa, iv xc2, iv 1, iv xc1]) rfl (rest := []) rfl rfl hby d4_69
                    refine oWk.to (mkF m 72 #[rv xa, iv xc2, iv 1, iv xc1] [(.int (oBi (oIso xc1)))]) (fun _ kt => st _ kt) ?_
                    by_cases hio_1 : oIso xc1
                    · refine oWk.to (mkF m 75 #[rv xa, iv xc2, iv 1, iv xc1] []) (fun _ kt => zH X hx hby d4_72 rfl rfl ((if0 _ _).trans (feq (oBi_ne hio_1)).1) kt) ?_
                      refine oWk.to (mkF m 76 #[rv xa, iv xc2, iv 1, iv xc1] [(.int 0)]) (fun _ kt => zK X hx hby d4_75 rfl kt) ?_
                      exact oRetZ X hx hlk hret (hb hby d4_76) (Or.inl rfl) (by rw [e0]; exact ⟨(by rw [oBi_f (fun q => q.2.2.2.1.2.2.2 hio_1)]), rfl, K⟩) (by decide) (by decide)
                    · refine oWk.to (mkF m 77 #[rv xa, iv xc2, iv 1, iv xc1] []) (fun _ kt => zF X hx hby d4_72 rfl rfl ((if0 _ _).trans (teq (oBi_f hio_1)).1) (pc' := 77) rfl kt) ?_
                      refine oWk.st (fun _ kt => zC X hx hby d4_77 rfl rfl (l' := #[rv xa, iv xc2, iv ((1 : Int32) + (1 : Int32)), iv xc1]) rfl (zG X hx hby d4_80 rfl (pc' := 36) rfl (zI X hx hby d4_36 rfl rfl (zA X hx hby d4_37 rfl rfl rfl kt)))) ?_
                      obtain ⟨T, L20, X, e0, K, st⟩ := (cs16 hw).pure X hx hZ hown e0 K (A := [(.ref xa)]) ⟨rfl, _, _, rfl, E_xa⟩ (rLnU_3 l Z a0 hw [] xa xb xk xz xc0 xc1 xc2 h0 Oh S_COMPACT_STRINGS hz E_xa F_coder_xa F_value_xa V_xb) (fun _ _ _ q => q) (W := 1) (by decide) hml (Ls := #[rv xa, iv xc2, iv 2, iv xc1]) rfl (rest := [(.int (2 : Int32))]) rfl rfl hby d4_38
                      refine oWk.st (fun _ kt => st _ (zN X hx hby d4_41 rfl rfl (tlt (by decide)).2.1 (zA X hx hby d4_44 rfl rfl rfl (zI X hx hby d4_45 rfl rfl kt)))) ?_
                      obtain ⟨T, L22, X, e0, K, st⟩ := (cs17 hw).pure X hx hZ hown e0 K (A := [(.ref xa), (.int (2 : Int32))]) ⟨rfl, _, _, rfl, E_xa⟩ (rCAU_3_2 l Z a0 hw [] xa xb xk xfm xz xc0 xc1 xc2 h0 Oh S_COMPACT_STRINGS hz S__assertionsDisabled S_HI_BYTE_SHIFT S_LO_BYTE_SHIFT S_SIOOBE_FORMATTER hcat hr2 E_xa F_coder_xa F_value_xa V_xb) (fun _ _ _ q => q) (W := 0) (by decide) hml (Ls := #[rv xa, iv xc2, iv 2, iv xc1]) rfl (rest := []) rfl rfl hby d4_46
                      refine oWk.to (mkF m 53 #[rv xa, iv xc2, iv 2, iv xc2] [(.int xc2), (.int 47)]) (fun _ kt => st _ (zSn X hx hby d4_49 rfl rfl (l' := #[rv xa, iv xc2, iv 2, iv xc2]) rfl (zL X hx hby d4_50 rfl (zI X hx hby d4_52 rfl rfl kt)))) ?_
                      by_cases h47_2 : (47 : Int32) = xc2
                      · refine oWk.to (mkF m 75 #[rv xa, iv xc2, iv 2, iv xc2] []) (fun _ kt => zY X hx hby d4_53 rfl rfl (teq h47_2).1 (pc' := 75) rfl kt) ?_
                        refine oWk.to (mkF m 76 #[rv xa, iv xc2, iv 2, iv xc2] [(.int 0)]) (fun _ kt => zK X hx hby d4_75 rfl kt) ?_
                        exact oRetZ X hx hlk hret (hb hby d4_76) (Or.inl rfl) (by rw [e0]; exact ⟨(by rw [oBi_f (fun q => q.2.2.2.2.1 h47_2.symm)]), rfl, K⟩) (by decide) (by decide)
                      · refine oWk.to (mkF m 56 #[rv xa, iv xc2, iv 2, iv xc2] []) (fun _ kt => zN X hx hby d4_53 rfl rfl (feq h47_2).1 kt) ?_
                        refine oWk.to (mkF m 59 #[rv xa, iv xc2, iv 2, iv xc2] [(.int xc2), (.int 92)]) (fun _ kt => zL X hx hby d4_56 rfl (zI X hx hby d4_58 rfl rfl kt)) ?_
                        by_cases h92_2 : (92 : Int32) = xc2
                        · refine oWk.to (mkF m 75 #[rv xa, iv xc2, iv 2, iv xc2] []) (fun _ kt => zY X hx hby d4_59 rfl rfl (teq h92_2).1 (pc' := 75) rfl kt) ?_
                          refine oWk.to (mkF m 76 #[rv xa, iv xc2, iv 2, iv xc2] [(.int 0)]) (fun _ kt => zK X hx hby d4_75 rfl kt) ?_
                          exact oRetZ X hx hlk hret (hb hby d4_76) (Or.inl rfl) (by rw [e0]; exact ⟨(by rw [oBi_f (fun q => q.2.2.2.2.2.1 h92_2.symm)]), rfl, K⟩) (by decide) (by decide)
                        · refine oWk.to (mkF m 62 #[rv xa, iv xc2, iv 2, iv xc2] []) (fun _ kt => zN X hx hby d4_59 rfl rfl (feq h92_2).1 kt) ?_
                          refine oWk.to (mkF m 65 #[rv xa, iv xc2, iv 2, iv xc2] [(.int xc2), (.int 58)]) (fun _ kt => zL X hx hby d4_62 rfl (zI X hx hby d4_64 rfl rfl kt)) ?_
                          by_cases h58_2 : (58 : Int32) = xc2
                          · refine oWk.to (mkF m 75 #[rv xa, iv xc2, iv 2, iv xc2] []) (fun _ kt => zY X hx hby d4_65 rfl rfl (teq h58_2).1 (pc' := 75) rfl kt) ?_
                            refine oWk.to (mkF m 76 #[rv xa, iv xc2, iv 2, iv xc2] [(.int 0)]) (fun _ kt => zK X hx hby d4_75 rfl kt) ?_
                            exact oRetZ X hx hlk hret (hb hby d4_76) (Or.inl rfl) (by rw [e0]; exact ⟨(by rw [oBi_f (fun q => q.2.2.2.2.2.2.1 h58_2.symm)]), rfl, K⟩) (by decide) (by decide)
                          · refine oWk.to (mkF m 68 #[rv xa, iv xc2, iv 2, iv xc2] []) (fun _ kt => zN X hx hby d4_65 rfl rfl (feq h58_2).1 kt) ?_
                            refine oWk.st (fun _ kt => zI X hx hby d4_68 rfl rfl kt) ?_
                            obtain ⟨T, L24, X, e0, K, st⟩ := (cs18 hw).pure X hx hZ hown e0 K (A := [(.int xc2)]) rfl (rIso l Z a0 hw [] xc2 h0 Oh hr2) (fun _ _ _ q => q) (W := 0) (by decide) hml (Ls := #[rv xa, iv xc2, iv 2, iv xc2]) rfl (rest := []) rfl rfl hby d4_69
                            refine oWk.to (mkF m 72 #[rv xa, iv xc2, iv 2, iv xc2] [(.int (oBi (oIso xc2)))]) (fun _ kt => st _ kt) ?_
                            by_cases hio_2 : oIso xc2
                            · refine oWk.to (mkF m 75 #[rv xa, iv xc2, iv 2, iv xc2] []) (fun _ kt => zH X hx hby d4_72 rfl rfl ((if0 _ _).trans (feq (oBi_ne hio_2)).1) kt) ?_
                              refine oWk.to (mkF m 76 #[rv xa, iv xc2, iv 2, iv xc2] [(.int 0)]) (fun _ kt => zK X hx hby d4_75 rfl kt) ?_
                              exact oRetZ X hx hlk hret (hb hby d4_76) (Or.inl rfl) (by rw [e0]; exact ⟨(by rw [oBi_f (fun q => q.2.2.2.2.2.2.2 hio_2)]), rfl, K⟩) (by decide) (by decide)
                            · refine oWk.to (mkF m 77 #[rv xa, iv xc2, iv 2, iv xc2] []) (fun _ kt => zF X hx hby d4_72 rfl rfl ((if0 _ _).trans (teq (oBi_f hio_2)).1) (pc' := 77) rfl kt) ?_
                              refine oWk.st (fun _ kt => zC X hx hby d4_77 rfl rfl (l' := #[rv xa, iv xc2, iv ((2 : Int32) + (1 : Int32)), iv xc2]) rfl (zG X hx hby d4_80 rfl (pc' := 36) rfl (zI X hx hby d4_36 rfl rfl (zA X hx hby d4_37 rfl rfl rfl kt)))) ?_
                              obtain ⟨T, L26, X, e0, K, st⟩ := (cs16 hw).pure X hx hZ hown e0 K (A := [(.ref xa)]) ⟨rfl, _, _, rfl, E_xa⟩ (rLnU_3 l Z a0 hw [] xa xb xk xz xc0 xc1 xc2 h0 Oh S_COMPACT_STRINGS hz E_xa F_coder_xa F_value_xa V_xb) (fun _ _ _ q => q) (W := 1) (by decide) hml (Ls := #[rv xa, iv xc2, iv 3, iv xc2]) rfl (rest := [(.int (3 : Int32))]) rfl rfl hby d4_38
                              refine oWk.to (mkF m 84 #[rv xa, iv xc2, iv 3, iv xc2] [(.int 1)]) (fun _ kt => st _ (zY X hx hby d4_41 rfl rfl (flt (by decide)).2.1 (pc' := 83) rfl (zK X hx hby d4_83 rfl kt))) ?_
                              exact oRetZ X hx hlk hret (hb hby d4_84) (Or.inr rfl) (by rw [e0]; exact ⟨(by rw [oBi_t ⟨fun q => hq46 q.symm, fun q => hq32 q.symm, ⟨fun q => h47_0 q.symm, fun q => h92_0 q.symm, fun q => h58_0 q.symm, hio_0⟩, ⟨fun q => h47_1 q.symm, fun q => h92_1 q.symm, fun q => h58_1 q.symm, hio_1⟩, ⟨fun q => h47_2 q.symm, fun q => h92_2 q.symm, fun q => h58_2 q.symm, hio_2⟩⟩]), rfl, K⟩) (by decide) (by decide)
def Q_rEmL_4 (Z : State) (xa xb : Addr) (xk : ClassId) (xc0 xc1 xc2 xc3 : Int32) (h0 : Heap) (v : Option Value) (h : Heap) (L : List Loc) : Prop := v = some (.int (0 : Int32)) ∧ h = h0 ∧ oKp h0 h [] L
theorem rEmL_4 (l : Launch) (Z : State) (a0 : Array Value) (hw : oHW a0 Z) (ws : List Jvm.Cond) (xa xb : Addr) (xk : ClassId) (xc0 xc1 xc2 xc3 : Int32) (h0 : Heap) (O0 : Ext Z.heap h0) (F_value_xa : Fld Z h0 xa Y0 "value" "[B" (.ref xb)) (V_xb : Arv Z h0 xb xk .byte (4 : Int32) [(ib xc0), (ib xc1), (ib xc2), (ib xc3)] (.int (0 : Int32))) :
    oCon l Z yy13 jdk_42_method_55_code 1 (some .boolean) ws ({ frames := 0, cells := 0, slots := 0, locals := 0 } : Room) #[(.ref xa)] h0 (Q_rEmL_4 Z xa xb xk xc0 xc1 xc2 xc3 h0) := by
  refine oCon.of (plainFor_of_name pn_2) ?_
  intro p e s m below meth c T X hx hby hml hown hnm hret hlk hZ e0
  have hml : c.maxLocals = 1 := hml
  have K : oKp h0 h0 [] [] := oKp.nil _ _
  refine oWk.cast (g' := (mkF m 0 #[rv xa] [])) (by first | rfl | (simp [entryFrame, mkF, argsToLocals, Value.category]; done)) ?_
  refine oWk.st (fun _ kt => zA X hx hby d5_0 rfl rfl rfl kt) ?_
  obtain ⟨T, X, e0, st⟩ := getF X hx hZ hown (host := "") (Or.inl (oW hw 22 rfl)) Via.refl e0 F_value_xa (g := (mkF m 1 #[rv xa] [(.ref xa)])) rfl rfl (hb hby d5_1)
  refine oWk.to (mkF m 13 #[rv xa] [(.int 0)]) (fun _ kt => st _ (oAl X hx hZ e0 V_xb hby d5_4 rfl rfl (zF X hx hby d5_5 rfl rfl ((if0 _ _).trans (feq (by decide)).2) (pc' := 12) rfl (zK X hx hby d5_12 rfl kt)))) ?_
  exact oRetZ X hx hlk hret (hb hby d5_13) (Or.inl rfl) (by rw [e0]; exact ⟨rfl, rfl, K⟩) (by decide) (by decide)
def Q_rLn_4 (Z : State) (xa xb : Addr) (xk : ClassId) (xz xc0 xc1 xc2 xc3 : Int32) (h0 : Heap) (v : Option Value) (h : Heap) (L : List Loc) : Prop := v = some (.int (4 : Int32)) ∧ h = h0 ∧ oKp h0 h [] L
theorem rLn_4 (l : Launch) (Z : State) (a0 : Array Value) (hw : oHW a0 Z) (ws : List Jvm.Cond) (xa xb : Addr) (xk : ClassId) (xz xc0 xc1 xc2 xc3 : Int32) (h0 : Heap) (O0 : Ext Z.heap h0) (S_COMPACT_STRINGS : Sta Z Z.heap Y0 Y6 "Z" (.int xz)) (hz : ¬ xz = (0 : Int32)) (E_xa : Exa Z h0 xa Y0) (F_coder_xa : Fld Z h0 xa Y0 "coder" "B" (.int (0 : Int32))) (F_value_xa : Fld Z h0 xa Y0 "value" "[B" (.ref xb)) (V_xb : Arv Z h0 xb xk .byte (4 : Int32) [(ib xc0), (ib xc1), (ib xc2), (ib xc3)] (.int (0 : Int32))) :
    oCon l Z yy16 jdk_42_method_54_code 1 (some .int) ws ({ frames := 1, cells := 0, slots := 0, locals := 13 } : Room) #[(.ref xa)] h0 (Q_rLn_4 Z xa xb xk xz xc0 xc1 xc2 xc3 h0) := by
  refine oCon.of (plainFor_of_name pn_2) ?_
  intro p e s m below meth c T X hx hby hml hown hnm hret hlk hZ e0
  have hml : c.maxLocals = 1 := hml
  have K : oKp h0 h0 [] [] := oKp.nil _ _
  refine oWk.cast (g' := (mkF m 0 #[rv xa] [])) (by first | rfl | (simp [entryFrame, mkF, argsToLocals, Value.category]; done)) ?_
  refine oWk.st (fun _ kt => zA X hx hby d10_0 rfl rfl rfl kt) ?_
  obtain ⟨T, X, e0, st⟩ := getF X hx hZ hown (host := "") (Or.inl (oW hw 22 rfl)) Via.refl e0 F_value_xa (g := (mkF m 1 #[rv xa] [(.ref xa)])) rfl rfl (hb hby d10_1)
  refine oWk.st (fun _ kt => st _ (oAl X hx hZ e0 V_xb hby d10_4 rfl rfl (zA X hx hby d10_5 rfl rfl rfl kt))) ?_
  have Oh := K.old O0 all0
  obtain ⟨T, L3, X, e0, K, st⟩ := (cs11 hw).pure X hx hZ hown e0 K (A := [(.ref xa)]) ⟨rfl, _, _, rfl, E_xa⟩ (rCdr l Z a0 hw [] xa xz h0 Oh S_COMPACT_STRINGS hz F_coder_xa) (fun _ _ _ q => q) (W := 1) (by decide) hml (Ls := #[rv xa]) rfl (rest := [(.int (4 : Int32))]) rfl rfl hby d10_6
  refine oWk.to (mkF m 10 #[rv xa] [(.int 4)]) (fun _ kt => st _ (XS.ishr X.here hx rfl (hb hby d10_9) rfl kt)) ?_
  exact oRetI X hx hlk hret (hb hby d10_10) (by rw [e0]; exact ⟨rfl, rfl, K⟩) (by decide) (by decide)
def Q_rLC_4_0 (Z : State) (xb : Addr) (xk : ClassId) (xfm : Value) (xc0 xc1 xc2 xc3 : Int32) (h0 : Heap) (v : Option Value) (h : Heap) (L : List Loc) : Prop := v = some (.int xc0) ∧ h = h0 ∧ oKp h0 h [] L
theorem rLC_4_0 (l : Launch) (Z : State) (a0 : Array Value) (hw : oHW a0 Z) (ws : List Jvm.Cond) (xb : Addr) (xk : ClassId) (xfm : Value) (xc0 xc1 xc2 xc3 : Int32) (h0 : Heap) (O0 : Ext Z.heap h0) (S_SIOOBE_FORMATTER : Sta Z Z.heap Y2 Y4 Y5 xfm) (hcat : xfm.category = 1) (hr : 0 ≤ xc0.toInt ∧ xc0.toInt < 256) (V_xb : Arv Z h0 xb xk .byte (4 : Int32) [(ib xc0), (ib xc1), (ib xc2), (ib xc3)] (.int (0 : Int32))) :
    oCon l Z yy20 jdk_43_method_2_code 2 (some .char) ws ({ frames := 2, cells := 0, slots := 0, locals := 27 } : Room) #[(.ref xb), (.int (0 : Int32))] h0 (Q_rLC_4_0 Z xb xk xfm xc0 xc1 xc2 xc3 h0) := by
  refine oCon.of (plainFor_of_name pn_6) ?_
  intro p e s m below meth c T X hx hby hml hown hnm hret hlk hZ e0
  have hml : c.maxLocals = 2 := hml
  have K : oKp h0 h0 [] [] := oKp.nil _ _
  refine oWk.cast (g' := (mkF m 0 #[rv xb, iv 0] [])) (by first | rfl | (simp [entryFrame, mkF, argsToLocals, Value.category]; done)) ?_
  refine oWk.st (fun _ kt => zI X hx hby d14_0 rfl rfl (zA X hx hby d14_1 rfl rfl rfl (oAl X hx hZ e0 V_xb hby d14_2 rfl rfl kt))) ?_
  have Oh := K.old O0 all0
  obtain ⟨T, L3, X, e0, K, st⟩ := (cs13 hw).pure X hx hZ hown e0 K (A := [(.int (0 : Int32)), (.int (4 : Int32))]) rfl (rCkI l Z a0 hw [] (0 : Int32) (4 : Int32) xfm h0 Oh S_SIOOBE_FORMATTER hcat (by decide) (by decide)) (fun _ _ _ q => q) (W := 0) (by decide) hml (Ls := #[rv xb, iv 0]) rfl (rest := []) rfl rfl hby d14_3
  refine oWk.to (mkF m 14 #[rv xb, iv 0] [(.int (((xc0.toInt8.toInt32) &&& (255 : Int32)).toUInt32.toUInt16.toUInt32.toInt32))]) (fun _ kt => st _ (zA X hx hby d14_6 rfl rfl rfl (zI X hx hby d14_7 rfl rfl (oLdB X hx hZ e0 V_xb (0 : Int32) (ib xc0) ⟨by decide, by decide⟩ rfl hby d14_8 rfl rfl (zM X hx hby d14_9 rfl (XS.iand X.here hx rfl (hb hby d14_12) rfl (XS.i2c X.here hx rfl (hb hby d14_13) rfl kt))))))) ?_
  rw [oBk hr]
  show oWk _ _ _ _ T (mkF m 14 #[rv xb, iv 0] [(.int xc0)])
  exact oRetN X hx hlk hret (Or.inr (Or.inl rfl)) (show narrow .char (.int xc0) = .int xc0 from congrArg Value.int (oChr hr)) (hb hby d14_14) (by rw [e0]; exact ⟨rfl, rfl, K⟩) (by decide) (by decide)
def Q_rCA_4_0 (Z : State) (xa xb : Addr) (xk : ClassId) (xfm : Value) (xz xc0 xc1 xc2 xc3 : Int32) (h0 : Heap) (v : Option Value) (h : Heap) (L : List Loc) : Prop := v = some (.int xc0) ∧ h = h0 ∧ oKp h0 h [] L
theorem rCA_4_0 (l : Launch) (Z : State) (a0 : Array Value) (hw : oHW a0 Z) (ws : List Jvm.Cond) (xa xb : Addr) (xk : ClassId) (xfm : Value) (xz xc0 xc1 xc2 xc3 : Int32) (h0 : Heap) (O0 : Ext Z.heap h0) (S_COMPACT_STRINGS : Sta Z Z.heap Y0 Y6 "Z" (.int xz)) (hz : ¬ xz = (0 : Int32)) (S_SIOOBE_FORMATTER : Sta Z Z.heap Y2 Y4 Y5 xfm) (hcat : xfm.category = 1) (hr : 0 ≤ xc0.toInt ∧ xc0.toInt < 256) (E_xa : Exa Z h0 xa Y0) (F_coder_xa : Fld Z h0 xa Y0 "coder" "B" (.int (0 : Int32))) (F_value_xa : Fld Z h0 xa Y0 "value" "[B" (.ref xb)) (V_xb : Arv Z h0 xb xk .byte (4 : Int32) [(ib xc0), (ib xc1), (ib xc2), (ib xc3)] (.int (0 : Int32))) :
    oCon l Z yy21 jdk_42_method_56_code 2 (some .char) ws ({ frames := 3, cells := 0, slots := 0, locals := 40 } : Room) #[(.ref xa), (.int (0 : Int32))] h0 (Q_rCA_4_0 Z xa xb xk xfm xz xc0 xc1 xc2 xc3 h0) := by
  refine oCon.of (plainFor_of_name pn_2) ?_
  intro p e s m below meth c T X hx hby hml hown hnm hret hlk hZ e0
  have hml : c.maxLocals = 2 := hml
  have K : oKp h0 h0 [] [] := oKp.nil _ _
  refine oWk.cast (g' := (mkF m 0 #[rv xa, iv 0] [])) (by first | rfl | (simp [entryFrame, mkF, argsToLocals, Value.category]; done)) ?_
  refine oWk.st (fun _ kt => zA X hx hby d12_0 rfl rfl rfl kt) ?_
  have Oh := K.old O0 all0
  obtain ⟨T, L2, X, e0, K, st⟩ := (cs14 hw).pure X hx hZ hown e0 K (A := [(.ref xa)]) ⟨rfl, _, _, rfl, E_xa⟩ (rIsL l Z a0 hw [] xa xz h0 Oh S_COMPACT_STRINGS hz F_coder_xa) (fun _ _ _ q => q) (W := 0) (by decide) hml (Ls := #[rv xa, iv 0]) rfl (rest := []) rfl rfl hby d12_1
  refine oWk.st (fun _ kt => st _ (zH X hx hby d12_4 rfl rfl ((if0 _ _).trans (feq (by decide)).1) (zA X hx hby d12_7 rfl rfl rfl kt))) ?_
  obtain ⟨T, X, e0, st⟩ := getF X hx hZ hown (host := "") (Or.inl (oW hw 22 rfl)) Via.refl e0 F_value_xa (g := (mkF m 8 #[rv xa, iv 0] [(.ref xa)])) rfl rfl (hb hby d12_8)
  refine oWk.st (fun _ kt => st _ (zI X hx hby d12_11 rfl rfl kt)) ?_
  obtain ⟨T, L4, X, e0, K, st⟩ := (cs15 hw).pure X hx hZ hown e0 K (A := [(.ref xb), (.int (0 : Int32))]) rfl (rLC_4_0 l Z a0 hw [] xb xk xfm xc0 xc1 xc2 xc3 h0 Oh S_SIOOBE_FORMATTER hcat hr V_xb) (fun _ _ _ q => q) (W := 0) (by decide) hml (Ls := #[rv xa, iv 0]) rfl (rest := []) rfl rfl hby d12_12
  refine oWk.to (mkF m 15 #[rv xa, iv 0] [(.int xc0)]) (fun _ kt => st _ kt) ?_
  exact oRetN X hx hlk hret (Or.inr (Or.inl rfl)) (show narrow .char (.int xc0) = .int xc0 from congrArg Value.int (oChr hr)) (hb hby d12_15) (by rw [e0]; exact ⟨rfl, rfl, K⟩) (by decide) (by decide)
def Q_rLC_4_1 (Z : State) (xb : Addr) (xk : ClassId) (xfm : Value) (xc0 xc1 xc2 xc3 : Int32) (h0 : Heap) (v : Option Value) (h : Heap) (L : List Loc) : Prop := v = some (.int xc1) ∧ h = h0 ∧ oKp h0 h [] L
theorem rLC_4_1 (l : Launch) (Z : State) (a0 : Array Value) (hw : oHW a0 Z) (ws : List Jvm.Cond) (xb : Addr) (xk : ClassId) (xfm : Value) (xc0 xc1 xc2 xc3 : Int32) (h0 : Heap) (O0 : Ext Z.heap h0) (S_SIOOBE_FORMATTER : Sta Z Z.heap Y2 Y4 Y5 xfm) (hcat : xfm.category = 1) (hr : 0 ≤ xc1.toInt ∧ xc1.toInt < 256) (V_xb : Arv Z h0 xb xk .byte (4 : Int32) [(ib xc0), (ib xc1), (ib xc2), (ib xc3)] (.int (0 : Int32))) :
    oCon l Z yy20 jdk_43_method_2_code 2 (some .char) ws ({ frames := 2, cells := 0, slots := 0, locals := 27 } : Room) #[(.ref xb), (.int (1 : Int32))] h0 (Q_rLC_4_1 Z xb xk xfm xc0 xc1 xc2 xc3 h0) := by
  refine oCon.of (plainFor_of_name pn_6) ?_
  intro p e s m below meth c T X hx hby hml hown hnm hret hlk hZ e0
  have hml : c.maxLocals = 2 := hml
  have K : oKp h0 h0 [] [] := oKp.nil _ _
  refine oWk.cast (g' := (mkF m 0 #[rv xb, iv 1] [])) (by first | rfl | (simp [entryFrame, mkF, argsToLocals, Value.category]; done)) ?_
  refine oWk.st (fun _ kt => zI X hx hby d14_0 rfl rfl (zA X hx hby d14_1 rfl rfl rfl (oAl X hx hZ e0 V_xb hby d14_2 rfl rfl kt))) ?_
  have Oh := K.old O0 all0
  obtain ⟨T, L3, X, e0, K, st⟩ := (cs13 hw).pure X hx hZ hown e0 K (A := [(.int (1 : Int32)), (.int (4 : Int32))]) rfl (rCkI l Z a0 hw [] (1 : Int32) (4 : Int32) xfm h0 Oh S_SIOOBE_FORMATTER hcat (by decide) (by decide)) (fun _ _ _ q => q) (W := 0) (by decide) hml (Ls := #[rv xb, iv 1]) rfl (rest := []) rfl rfl hby d14_3
  refine oWk.to (mkF m 14 #[rv xb, iv 1] [(.int (((xc1.toInt8.toInt32) &&& (255 : Int32)).toUInt32.toUInt16.toUInt32.toInt32))]) (fun _ kt => st _ (zA X hx hby d14_6 rfl rfl rfl (zI X hx hby d14_7 rfl rfl (oLdB X hx hZ e0 V_xb (1 : Int32) (ib xc1) ⟨by decide, by decide⟩ rfl hby d14_8 rfl rfl (zM X hx hby d14_9 rfl (XS.iand X.here hx rfl (hb hby d14_12) rfl (XS.i2c X.here hx rfl (hb hby d14_13) rfl kt))))))) ?_
  rw [oBk hr]
  show oWk _ _ _ _ T (mkF m 14 #[rv xb, iv 1] [(.int xc1)])
  exact oRetN X hx hlk hret (Or.inr (Or.inl rfl)) (show narrow .char (.int xc1) = .int xc1 from congrArg Value.int (oChr hr)) (hb hby d14_14) (by rw [e0]; exact ⟨rfl, rfl, K⟩) (by decide) (by decide)
def Q_rCA_4_1 (Z : State) (xa xb : Addr) (xk : ClassId) (xfm : Value) (xz xc0 xc1 xc2 xc3 : Int32) (h0 : Heap) (v : Option Value) (h : Heap) (L : List Loc) : Prop := v = some (.int xc1) ∧ h = h0 ∧ oKp h0 h [] L
theorem rCA_4_1 (l : Launch) (Z : State) (a0 : Array Value) (hw : oHW a0 Z) (ws : List Jvm.Cond) (xa xb : Addr) (xk : ClassId) (xfm : Value) (xz xc0 xc1 xc2 xc3 : Int32) (h0 : Heap) (O0 : Ext Z.heap h0) (S_COMPACT_STRINGS : Sta Z Z.heap Y0 Y6 "Z" (.int xz)) (hz : ¬ xz = (0 : Int32)) (S_SIOOBE_FORMATTER : Sta Z Z.heap Y2 Y4 Y5 xfm) (hcat : xfm.category = 1) (hr : 0 ≤ xc1.toInt ∧ xc1.toInt < 256) (E_xa : Exa Z h0 xa Y0) (F_coder_xa : Fld Z h0 xa Y0 "coder" "B" (.int (0 : Int32))) (F_value_xa : Fld Z h0 xa Y0 "value" "[B" (.ref xb)) (V_xb : Arv Z h0 xb xk .byte (4 : Int32) [(ib xc0), (ib xc1), (ib xc2), (ib xc3)] (.int (0 : Int32))) :
    oCon l Z yy21 jdk_42_method_56_code 2 (some .char) ws ({ frames := 3, cells := 0, slots := 0, locals := 40 } : Room) #[(.ref xa), (.int (1 : Int32))] h0 (Q_rCA_4_1 Z xa xb xk xfm xz xc0 xc1 xc2 xc3 h0) := by
  refine oCon.of (plainFor_of_name pn_2) ?_
  intro p e s m below meth c T X hx hby hml hown hnm hret hlk hZ e0
  have hml : c.maxLocals = 2 := hml
  have K : oKp h0 h0 [] [] := oKp.nil _ _
  refine oWk.cast (g' := (mkF m 0 #[rv xa, iv 1] [])) (by first | rfl | (simp [entryFrame, mkF, argsToLocals, Value.category]; done)) ?_
  refine oWk.st (fun _ kt => zA X hx hby d12_0 rfl rfl rfl kt) ?_
  have Oh := K.old O0 all0
  obtain ⟨T, L2, X, e0, K, st⟩ := (cs14 hw).pure X hx hZ hown e0 K (A := [(.ref xa)]) ⟨rfl, _, _, rfl, E_xa⟩ (rIsL l Z a0 hw [] xa xz h0 Oh S_COMPACT_STRINGS hz F_coder_xa) (fun _ _ _ q => q) (W := 0) (by decide) hml (Ls := #[rv xa, iv 1]) rfl (rest := []) rfl rfl hby d12_1
  refine oWk.st (fun _ kt => st _ (zH X hx hby d12_4 rfl rfl ((if0 _ _).trans (feq (by decide)).1) (zA X hx hby d12_7 rfl rfl rfl kt))) ?_
  obtain ⟨T, X, e0, st⟩ := getF X hx hZ hown (host := "") (Or.inl (oW hw 22 rfl)) Via.refl e0 F_value_xa (g := (mkF m 8 #[rv xa, iv 1] [(.ref xa)])) rfl rfl (hb hby d12_8)
  refine oWk.st (fun _ kt => st _ (zI X hx hby d12_11 rfl rfl kt)) ?_
  obtain ⟨T, L4, X, e0, K, st⟩ := (cs15 hw).pure X hx hZ hown e0 K (A := [(.ref xb), (.int (1 : Int32))]) rfl (rLC_4_1 l Z a0 hw [] xb xk xfm xc0 xc1 xc2 xc3 h0 Oh S_SIOOBE_FORMATTER hcat hr V_xb) (fun _ _ _ q => q) (W := 0) (by decide) hml (Ls := #[rv xa, iv 1]) rfl (rest := []) rfl rfl hby d12_12
  refine oWk.to (mkF m 15 #[rv xa, iv 1] [(.int xc1)]) (fun _ kt => st _ kt) ?_
  exact oRetN X hx hlk hret (Or.inr (Or.inl rfl)) (show narrow .char (.int xc1) = .int xc1 from congrArg Value.int (oChr hr)) (hb hby d12_15) (by rw [e0]; exact ⟨rfl, rfl, K⟩) (by decide) (by decide)
def Q_rLC_4_2 (Z : State) (xb : Addr) (xk : ClassId) (xfm : Value) (xc0 xc1 xc2 xc3 : Int32) (h0 : Heap) (v : Option Value) (h : Heap) (L : List Loc) : Prop := v = some (.int xc2) ∧ h = h0 ∧ oKp h0 h [] L
theorem rLC_4_2 (l : Launch) (Z : State) (a0 : Array Value) (hw : oHW a0 Z) (ws : List Jvm.Cond) (xb : Addr) (xk : ClassId) (xfm : Value) (xc0 xc1 xc2 xc3 : Int32) (h0 : Heap) (O0 : Ext Z.heap h0) (S_SIOOBE_FORMATTER : Sta Z Z.heap Y2 Y4 Y5 xfm) (hcat : xfm.category = 1) (hr : 0 ≤ xc2.toInt ∧ xc2.toInt < 256) (V_xb : Arv Z h0 xb xk .byte (4 : Int32) [(ib xc0), (ib xc1), (ib xc2), (ib xc3)] (.int (0 : Int32))) :
    oCon l Z yy20 jdk_43_method_2_code 2 (some .char) ws ({ frames := 2, cells := 0, slots := 0, locals := 27 } : Room) #[(.ref xb), (.int (2 : Int32))] h0 (Q_rLC_4_2 Z xb xk xfm xc0 xc1 xc2 xc3 h0) := by
  refine oCon.of (plainFor_of_name pn_6) ?_
  intro p e s m below meth c T X hx hby hml hown hnm hret hlk hZ e0
  have hml : c.maxLocals = 2 := hml
  have K : oKp h0 h0 [] [] := oKp.nil _ _
  refine oWk.cast (g' := (mkF m 0 #[rv xb, iv 2] [])) (by first | rfl | (simp [entryFrame, mkF, argsToLocals, Value.category]; done)) ?_
  refine oWk.st (fun _ kt => zI X hx hby d14_0 rfl rfl (zA X hx hby d14_1 rfl rfl rfl (oAl X hx hZ e0 V_xb hby d14_2 rfl rfl kt))) ?_
  have Oh := K.old O0 all0
  obtain ⟨T, L3, X, e0, K, st⟩ := (cs13 hw).pure X hx hZ hown e0 K (A := [(.int (2 : Int32)), (.int (4 : Int32))]) rfl (rCkI l Z a0 hw [] (2 : Int32) (4 : Int32) xfm h0 Oh S_SIOOBE_FORMATTER hcat (by decide) (by decide)) (fun _ _ _ q => q) (W := 0) (by decide) hml (Ls := #[rv xb, iv 2]) rfl (rest := []) rfl rfl hby d14_3
  refine oWk.to (mkF m 14 #[rv xb, iv 2] [(.int (((xc2.toInt8.toInt32) &&& (255 : Int32)).toUInt32.toUInt16.toUInt32.toInt32))]) (fun _ kt => st _ (zA X hx hby d14_6 rfl rfl rfl (zI X hx hby d14_7 rfl rfl (oLdB X hx hZ e0 V_xb (2 : Int32) (ib xc2) ⟨by decide, by decide⟩ rfl hby d14_8 rfl rfl (zM X hx hby d14_9 rfl (XS.iand X.here hx rfl (hb hby d14_12) rfl (XS.i2c X.here hx rfl (hb hby d14_13) rfl kt))))))) ?_
  rw [oBk hr]
  show oWk _ _ _ _ T (mkF m 14 #[rv xb, iv 2] [(.int xc2)])
  exact oRetN X hx hlk hret (Or.inr (Or.inl rfl)) (show narrow .char (.int xc2) = .int xc2 from congrArg Value.int (oChr hr)) (hb hby d14_14) (by rw [e0]; exact ⟨rfl, rfl, K⟩) (by decide) (by decide)
def Q_rCA_4_2 (Z : State) (xa xb : Addr) (xk : ClassId) (xfm : Value) (xz xc0 xc1 xc2 xc3 : Int32) (h0 : Heap) (v : Option Value) (h : Heap) (L : List Loc) : Prop := v = some (.int xc2) ∧ h = h0 ∧ oKp h0 h [] L
theorem rCA_4_2 (l : Launch) (Z : State) (a0 : Array Value) (hw : oHW a0 Z) (ws : List Jvm.Cond) (xa xb : Addr) (xk : ClassId) (xfm : Value) (xz xc0 xc1 xc2 xc3 : Int32) (h0 : Heap) (O0 : Ext Z.heap h0) (S_COMPACT_STRINGS : Sta Z Z.heap Y0 Y6 "Z" (.int xz)) (hz : ¬ xz = (0 : Int32)) (S_SIOOBE_FORMATTER : Sta Z Z.heap Y2 Y4 Y5 xfm) (hcat : xfm.category = 1) (hr : 0 ≤ xc2.toInt ∧ xc2.toInt < 256) (E_xa : Exa Z h0 xa Y0) (F_coder_xa : Fld Z h0 xa Y0 "coder" "B" (.int (0 : Int32))) (F_value_xa : Fld Z h0 xa Y0 "value" "[B" (.ref xb)) (V_xb : Arv Z h0 xb xk .byte (4 : Int32) [(ib xc0), (ib xc1), (ib xc2), (ib xc3)] (.int (0 : Int32))) :
    oCon l Z yy21 jdk_42_method_56_code 2 (some .char) ws ({ frames := 3, cells := 0, slots := 0, locals := 40 } : Room) #[(.ref xa), (.int (2 : Int32))] h0 (Q_rCA_4_2 Z xa xb xk xfm xz xc0 xc1 xc2 xc3 h0) := by
  refine oCon.of (plainFor_of_name pn_2) ?_
  intro p e s m below meth c T X hx hby hml hown hnm hret hlk hZ e0
  have hml : c.maxLocals = 2 := hml
  have K : oKp h0 h0 [] [] := oKp.nil _ _
  refine oWk.cast (g' := (mkF m 0 #[rv xa, iv 2] [])) (by first | rfl | (simp [entryFrame, mkF, argsToLocals, Value.category]; done)) ?_
  refine oWk.st (fun _ kt => zA X hx hby d12_0 rfl rfl rfl kt) ?_
  have Oh := K.old O0 all0
  obtain ⟨T, L2, X, e0, K, st⟩ := (cs14 hw).pure X hx hZ hown e0 K (A := [(.ref xa)]) ⟨rfl, _, _, rfl, E_xa⟩ (rIsL l Z a0 hw [] xa xz h0 Oh S_COMPACT_STRINGS hz F_coder_xa) (fun _ _ _ q => q) (W := 0) (by decide) hml (Ls := #[rv xa, iv 2]) rfl (rest := []) rfl rfl hby d12_1
  refine oWk.st (fun _ kt => st _ (zH X hx hby d12_4 rfl rfl ((if0 _ _).trans (feq (by decide)).1) (zA X hx hby d12_7 rfl rfl rfl kt))) ?_
  obtain ⟨T, X, e0, st⟩ := getF X hx hZ hown (host := "") (Or.inl (oW hw 22 rfl)) Via.refl e0 F_value_xa (g := (mkF m 8 #[rv xa, iv 2] [(.ref xa)])) rfl rfl (hb hby d12_8)
  refine oWk.st (fun _ kt => st _ (zI X hx hby d12_11 rfl rfl kt)) ?_
  obtain ⟨T, L4, X, e0, K, st⟩ := (cs15 hw).pure X hx hZ hown e0 K (A := [(.ref xb), (.int (2 : Int32))]) rfl (rLC_4_2 l Z a0 hw [] xb xk xfm xc0 xc1 xc2 xc3 h0 Oh S_SIOOBE_FORMATTER hcat hr V_xb) (fun _ _ _ q => q) (W := 0) (by decide) hml (Ls := #[rv xa, iv 2]) rfl (rest := []) rfl rfl hby d12_12
  refine oWk.to (mkF m 15 #[rv xa, iv 2] [(.int xc2)]) (fun _ kt => st _ kt) ?_
  exact oRetN X hx hlk hret (Or.inr (Or.inl rfl)) (show narrow .char (.int xc2) = .int xc2 from congrArg Value.int (oChr hr)) (hb hby d12_15) (by rw [e0]; exact ⟨rfl, rfl, K⟩) (by decide) (by decide)
def Q_rLC_4_3 (Z : State) (xb : Addr) (xk : ClassId) (xfm : Value) (xc0 xc1 xc2 xc3 : Int32) (h0 : Heap) (v : Option Value) (h : Heap) (L : List Loc) : Prop := v = some (.int xc3) ∧ h = h0 ∧ oKp h0 h [] L
theorem rLC_4_3 (l : Launch) (Z : State) (a0 : Array Value) (hw : oHW a0 Z) (ws : List Jvm.Cond) (xb : Addr) (xk : ClassId) (xfm : Value) (xc0 xc1 xc2 xc3 : Int32) (h0 : Heap) (O0 : Ext Z.heap h0) (S_SIOOBE_FORMATTER : Sta Z Z.heap Y2 Y4 Y5 xfm) (hcat : xfm.category = 1) (hr : 0 ≤ xc3.toInt ∧ xc3.toInt < 256) (V_xb : Arv Z h0 xb xk .byte (4 : Int32) [(ib xc0), (ib xc1), (ib xc2), (ib xc3)] (.int (0 : Int32))) :
    oCon l Z yy20 jdk_43_method_2_code 2 (some .char) ws ({ frames := 2, cells := 0, slots := 0, locals := 27 } : Room) #[(.ref xb), (.int (3 : Int32))] h0 (Q_rLC_4_3 Z xb xk xfm xc0 xc1 xc2 xc3 h0) := by
  refine oCon.of (plainFor_of_name pn_6) ?_
  intro p e s m below meth c T X hx hby hml hown hnm hret hlk hZ e0
  have hml : c.maxLocals = 2 := hml
  have K : oKp h0 h0 [] [] := oKp.nil _ _
  refine oWk.cast (g' := (mkF m 0 #[rv xb, iv 3] [])) (by first | rfl | (simp [entryFrame, mkF, argsToLocals, Value.category]; done)) ?_
  refine oWk.st (fun _ kt => zI X hx hby d14_0 rfl rfl (zA X hx hby d14_1 rfl rfl rfl (oAl X hx hZ e0 V_xb hby d14_2 rfl rfl kt))) ?_
  have Oh := K.old O0 all0
  obtain ⟨T, L3, X, e0, K, st⟩ := (cs13 hw).pure X hx hZ hown e0 K (A := [(.int (3 : Int32)), (.int (4 : Int32))]) rfl (rCkI l Z a0 hw [] (3 : Int32) (4 : Int32) xfm h0 Oh S_SIOOBE_FORMATTER hcat (by decide) (by decide)) (fun _ _ _ q => q) (W := 0) (by decide) hml (Ls := #[rv xb, iv 3]) rfl (rest := []) rfl rfl hby d14_3
  refine oWk.to (mkF m 14 #[rv xb, iv 3] [(.int (((xc3.toInt8.toInt32) &&& (255 : Int32)).toUInt32.toUInt16.toUInt32.toInt32))]) (fun _ kt => st _ (zA X hx hby d14_6 rfl rfl rfl (zI X hx hby d14_7 rfl rfl (oLdB X hx hZ e0 V_xb (3 : Int32) (ib xc3) ⟨by decide, by decide⟩ rfl hby d14_8 rfl rfl (zM X hx hby d14_9 rfl (XS.iand X.here hx rfl (hb hby d14_12) rfl (XS.i2c X.here hx rfl (hb hby d14_13) rfl kt))))))) ?_
  rw [oBk hr]
  show oWk _ _ _ _ T (mkF m 14 #[rv xb, iv 3] [(.int xc3)])
  exact oRetN X hx hlk hret (Or.inr (Or.inl rfl)) (show narrow .char (.int xc3) = .int xc3 from congrArg Value.int (oChr hr)) (hb hby d14_14) (by rw [e0]; exact ⟨rfl, rfl, K⟩) (by decide) (by decide)
def Q_rCA_4_3 (Z : State) (xa xb : Addr) (xk : ClassId) (xfm : Value) (xz xc0 xc1 xc2 xc3 : Int32) (h0 : Heap) (v : Option Value) (h : Heap) (L : List Loc) : Prop := v = some (.int xc3) ∧ h = h0 ∧ oKp h0 h [] L
theorem rCA_4_3 (l : Launch) (Z : State) (a0 : Array Value) (hw : oHW a0 Z) (ws : List Jvm.Cond) (xa xb : Addr) (xk : ClassId) (xfm : Value) (xz xc0 xc1 xc2 xc3 : Int32) (h0 : Heap) (O0 : Ext Z.heap h0) (S_COMPACT_STRINGS : Sta Z Z.heap Y0 Y6 "Z" (.int xz)) (hz : ¬ xz = (0 : Int32)) (S_SIOOBE_FORMATTER : Sta Z Z.heap Y2 Y4 Y5 xfm) (hcat : xfm.category = 1) (hr : 0 ≤ xc3.toInt ∧ xc3.toInt < 256) (E_xa : Exa Z h0 xa Y0) (F_coder_xa : Fld Z h0 xa Y0 "coder" "B" (.int (0 : Int32))) (F_value_xa : Fld Z h0 xa Y0 "value" "[B" (.ref xb)) (V_xb : Arv Z h0 xb xk .byte (4 : Int32) [(ib xc0), (ib xc1), (ib xc2), (ib xc3)] (.int (0 : Int32))) :
    oCon l Z yy21 jdk_42_method_56_code 2 (some .char) ws ({ frames := 3, cells := 0, slots := 0, locals := 40 } : Room) #[(.ref xa), (.int (3 : Int32))] h0 (Q_rCA_4_3 Z xa xb xk xfm xz xc0 xc1 xc2 xc3 h0) := by
  refine oCon.of (plainFor_of_name pn_2) ?_
  intro p e s m below meth c T X hx hby hml hown hnm hret hlk hZ e0
  have hml : c.maxLocals = 2 := hml
  have K : oKp h0 h0 [] [] := oKp.nil _ _
  refine oWk.cast (g' := (mkF m 0 #[rv xa, iv 3] [])) (by first | rfl | (simp [entryFrame, mkF, argsToLocals, Value.category]; done)) ?_
  refine oWk.st (fun _ kt => zA X hx hby d12_0 rfl rfl rfl kt) ?_
  have Oh := K.old O0 all0
  obtain ⟨T, L2, X, e0, K, st⟩ := (cs14 hw).pure X hx hZ hown e0 K (A := [(.ref xa)]) ⟨rfl, _, _, rfl, E_xa⟩ (rIsL l Z a0 hw [] xa xz h0 Oh S_COMPACT_STRINGS hz F_coder_xa) (fun _ _ _ q => q) (W := 0) (by decide) hml (Ls := #[rv xa, iv 3]) rfl (rest := []) rfl rfl hby d12_1
  refine oWk.st (fun _ kt => st _ (zH X hx hby d12_4 rfl rfl ((if0 _ _).trans (feq (by decide)).1) (zA X hx hby d12_7 rfl rfl rfl kt))) ?_
  obtain ⟨T, X, e0, st⟩ := getF X hx hZ hown (host := "") (Or.inl (oW hw 22 rfl)) Via.refl e0 F_value_xa (g := (mkF m 8 #[rv xa, iv 3] [(.ref xa)])) rfl rfl (hb hby d12_8)
  refine oWk.st (fun _ kt => st _ (zI X hx hby d12_11 rfl rfl kt)) ?_
  obtain ⟨T, L4, X, e0, K, st⟩ := (cs15 hw).pure X hx hZ hown e0 K (A := [(.ref xb), (.int (3 : Int32))]) rfl (rLC_4_3 l Z a0 hw [] xb xk xfm xc0 xc1 xc2 xc3 h0 Oh S_SIOOBE_FORMATTER hcat hr V_xb) (fun _ _ _ q => q) (W := 0) (by decide) hml (Ls := #[rv xa, iv 3]) rfl (rest := []) rfl rfl hby d12_12
  refine oWk.to (mkF m 15 #[rv xa, iv 3] [(.int xc3)]) (fun _ kt => st _ kt) ?_
  exact oRetN X hx hlk hret (Or.inr (Or.inl rfl)) (show narrow .char (.int xc3) = .int xc3 from congrArg Value.int (oChr hr)) (hb hby d12_15) (by rw [e0]; exact ⟨rfl, rfl, K⟩) (by decide) (by decide)
def Q_rSSL_4 (Z : State) (xa xb : Addr) (xk : ClassId) (xfm : Value) (xz xc0 xc1 xc2 xc3 : Int32) (h0 : Heap) (v : Option Value) (h : Heap) (L : List Loc) : Prop := v = some (.int (oBi (¬ xc3 = (46 : Int32) ∧ ¬ xc3 = (32 : Int32) ∧ oPl xc0 ∧ oPl xc1 ∧ oPl xc2 ∧ oPl xc3))) ∧ h = h0 ∧ oKp h0 h [] L
theorem rSSL_4 (l : Launch) (Z : State) (a0 : Array Value) (hw : oHW a0 Z) (ws : List Jvm.Cond) (xa xb : Addr) (xk : ClassId) (xfm : Value) (xz xc0 xc1 xc2 xc3 : Int32) (h0 : Heap) (O0 : Ext Z.heap h0) (S_COMPACT_STRINGS : Sta Z Z.heap Y0 Y6 "Z" (.int xz)) (hz : ¬ xz = (0 : Int32)) (S_SIOOBE_FORMATTER : Sta Z Z.heap Y2 Y4 Y5 xfm) (hcat : xfm.category = 1) (E_xa : Exa Z h0 xa Y0) (F_coder_xa : Fld Z h0 xa Y0 "coder" "B" (.int (0 : Int32))) (F_value_xa : Fld Z h0 xa Y0 "value" "[B" (.ref xb)) (V_xb : Arv Z h0 xb xk .byte (4 : Int32) [(ib xc0), (ib xc1), (ib xc2), (ib xc3)] (.int (0 : Int32))) (hr0 : 0 ≤ xc0.toInt ∧ xc0.toInt < 256) (hr1 : 0 ≤ xc1.toInt ∧ xc1.toInt < 256) (hr2 : 0 ≤ xc2.toInt ∧ xc2.toInt < 256) (hr3 : 0 ≤ xc3.toInt ∧ xc3.toInt < 256) :
    oCon l Z yy14 prog_11_method_4_code 4 (some .boolean) ws ({ frames := 4, cells := 0, slots := 0, locals := 53 } : Room) #[(.ref xa)] h0 (Q_rSSL_4 Z xa xb xk xfm xz xc0 xc1 xc2 xc3 h0) := by
  refine oCon.of (plainFor_of_name pn_4) ?_
  intro p e s m below meth c T X hx hby hml hown hnm hret hlk hZ e0
  have hml : c.maxLocals = 4 := hml
  have K : oKp h0 h0 [] [] := oKp.nil _ _
  refine oWk.cast (g' := (mkF m 0 #[rv xa, uu, uu, uu] [])) (by first | rfl | (simp [entryFrame, mkF, argsToLocals, Value.category]; done)) ?_
  refine oWk.st (fun _ kt => zA X hx hby d4_0 rfl rfl rfl kt) ?_
  have Oh := K.old O0 all0
  obtain ⟨T, L2, X, e0, K, st⟩ := (cs10 hw).pure X hx hZ hown e0 K (A := [(.ref xa)]) ⟨rfl, _, _, rfl, E_xa⟩ (rEmL_4 l Z a0 hw [] xa xb xk xc0 xc1 xc2 xc3 h0 Oh F_value_xa V_xb) (fun _ _ _ q => q) (W := 0) (by decide) hml (Ls := #[rv xa, uu, uu, uu]) rfl (rest := []) rfl rfl hby d4_1
  refine oWk.st (fun _ kt => st _ (zF X hx hby d4_4 rfl rfl ((if0 _ _).trans (teq (by decide)).1) (pc' := 9) rfl (zA X hx hby d4_9 rfl rfl rfl (zA X hx hby d4_10 rfl rfl rfl kt)))) ?_
  obtain ⟨T, L4, X, e0, K, st⟩ := (cs16 hw).pure X hx hZ hown e0 K (A := [(.ref xa)]) ⟨rfl, _, _, rfl, E_xa⟩ (rLn_4 l Z a0 hw [] xa xb xk xz xc0 xc1 xc2 xc3 h0 Oh S_COMPACT_STRINGS hz E_xa F_coder_xa F_value_xa V_xb) (fun _ _ _ q => q) (W := 1) (by decide) hml (Ls := #[rv xa, uu, uu, uu]) rfl (rest := [(.ref xa)]) rfl rfl hby d4_11
  refine oWk.st (fun _ kt => st _ (zK X hx hby d4_14 rfl (XS.isub X.here hx rfl (hb hby d4_15) rfl kt))) ?_
  obtain ⟨T, L6, X, e0, K, st⟩ := (cs17 hw).pure X hx hZ hown e0 K (A := [(.ref xa), (.int (3 : Int32))]) ⟨rfl, _, _, rfl, E_xa⟩ (rCA_4_3 l Z a0 hw [] xa xb xk xfm xz xc0 xc1 xc2 xc3 h0 Oh S_COMPACT_STRINGS hz S_SIOOBE_FORMATTER hcat hr3 E_xa F_coder_xa F_value_xa V_xb) (fun _ _ _ q => q) (W := 0) (by decide) hml (Ls := #[rv xa, uu, uu, uu]) rfl (rest := []) rfl rfl hby d4_16
  refine oWk.to (mkF m 23 #[rv xa, iv xc3, uu, uu] [(.int xc3), (.int 46)]) (fun _ kt => st _ (zSn X hx hby d4_19 rfl rfl (l' := #[rv xa, iv xc3, uu, uu]) rfl (zL X hx hby d4_20 rfl (zI X hx hby d4_22 rfl rfl kt)))) ?_
  by_cases hq46 : (46 : Int32) = xc3
  · refine oWk.to (mkF m 32 #[rv xa, iv xc3, uu, uu] []) (fun _ kt => zY X hx hby d4_23 rfl rfl (teq hq46).1 (pc' := 32) rfl kt) ?_
    refine oWk.to (mkF m 33 #[rv xa, iv xc3, uu, uu] [(.int 0)]) (fun _ kt => zK X hx hby d4_32 rfl kt) ?_
    exact oRetZ X hx hlk hret (hb hby d4_33) (Or.inl rfl) (by rw [e0]; exact ⟨(by rw [oBi_f (fun q => q.1 hq46.symm)]), rfl, K⟩) (by decide) (by decide)
  · refine oWk.to (mkF m 26 #[rv xa, iv xc3, uu, uu] []) (fun _ kt => zN X hx hby d4_23 rfl rfl (feq hq46).1 kt) ?_
    refine oWk.to (mkF m 29 #[rv xa, iv xc3, uu, uu] [(.int xc3), (.int 32)]) (fun _ kt => zL X hx hby d4_26 rfl (zI X hx hby d4_28 rfl rfl kt)) ?_
    by_cases hq32 : (32 : Int32) = xc3
    · refine oWk.to (mkF m 32 #[rv xa, iv xc3, uu, uu] []) (fun _ kt => zN X hx hby d4_29 rfl rfl (teq hq32).2 kt) ?_
      refine oWk.to (mkF m 33 #[rv xa, iv xc3, uu, uu] [(.int 0)]) (fun _ kt => zK X hx hby d4_32 rfl kt) ?_
      exact oRetZ X hx hlk hret (hb hby d4_33) (Or.inl rfl) (by rw [e0]; exact ⟨(by rw [oBi_f (fun q => q.2.1 hq32.symm)]), rfl, K⟩) (by decide) (by decide)
    · refine oWk.to (mkF m 34 #[rv xa, iv xc3, uu, uu] []) (fun _ kt => zY X hx hby d4_29 rfl rfl (feq hq32).2 (pc' := 34) rfl kt) ?_
      refine oWk.st (fun _ kt => zK X hx hby d4_34 rfl (zSn X hx hby d4_35 rfl rfl (l' := #[rv xa, iv xc3, iv 0, uu]) rfl (zI X hx hby d4_36 rfl rfl (zA X hx hby d4_37 rfl rfl rfl kt)))) ?_
      obtain ⟨T, L8, X, e0, K, st⟩ := (cs16 hw).pure X hx hZ hown e0 K (A := [(.ref xa)]) ⟨rfl, _, _, rfl, E_xa⟩ (rLn_4 l Z a0 hw [] xa xb xk xz xc0 xc1 xc2 xc3 h0 Oh S_COMPACT_STRINGS hz E_xa F_coder_xa F_value_xa V_xb) (fun _ _ _ q => q) (W := 1) (by decide) hml (Ls := #[rv xa, iv xc3, iv 0, uu]) rfl (rest := [(.int (0 : Int32))]) rfl rfl hby d4_38
      refine oWk.st (fun _ kt => st _ (zN X hx hby d4_41 rfl rfl (tlt (by decide)).2.1 (zA X hx hby d4_44 rfl rfl rfl (zI X hx hby d4_45 rfl rfl kt)))) ?_
      obtain ⟨T, L10, X, e0, K, st⟩ := (cs17 hw).pure X hx hZ hown e0 K (A := [(.ref xa), (.int (0 : Int32))]) ⟨rfl, _, _, rfl, E_xa⟩ (rCA_4_0 l Z a0 hw [] xa xb xk xfm xz xc0 xc1 xc2 xc3 h0 Oh S_COMPACT_STRINGS hz S_SIOOBE_FORMATTER hcat hr0 E_xa F_coder_xa F_value_xa V_xb) (fun _ _ _ q => q) (W := 0) (by decide) hml (Ls := #[rv xa, iv xc3, iv 0, uu]) rfl (rest := []) rfl rfl hby d4_46
      refine oWk.to (mkF m 53 #[rv xa, iv xc3, iv 0, iv xc0] [(.int xc0), (.int 47)]) (fun _ kt => st _ (zSn X hx hby d4_49 rfl rfl (l' := #[rv xa, iv xc3, iv 0, iv xc0]) rfl (zL X hx hby d4_50 rfl (zI X hx hby d4_52 rfl rfl kt)))) ?_
      by_cases h47_0 : (47 : Int32) = xc0
      · refine oWk.to (mkF m 75 #[rv xa, iv xc3, iv 0, iv xc0] []) (fun _ kt => zY X hx hby d4_53 rfl rfl (teq h47_0).1 (pc' := 75) rfl kt) ?_
        refine oWk.to (mkF m 76 #[rv xa, iv xc3, iv 0, iv xc0] [(.int 0)]) (fun _ kt => zK X hx hby d4_75 rfl kt) ?_
        exact oRetZ X hx hlk hret (hb hby d4_76) (Or.inl rfl) (by rw [e0]; exact ⟨(by rw [oBi_f (fun q => q.2.2.1.1 h47_0.symm)]), rfl, K⟩) (by decide) (by decide)
      · refine oWk.to (mkF m 56 #[rv xa, iv xc3, iv 0, iv xc0] []) (fun _ kt => zN X hx hby d4_53 rfl rfl (feq h47_0).1 kt) ?_
        refine oWk.to (mkF m 59 #[rv xa, iv xc3, iv 0, iv xc0] [(.int xc0), (.int 92)]) (fun _ kt => zL X hx hby d4_56 rfl (zI X hx hby d4_58 rfl rfl kt)) ?_
        by_cases h92_0 : (92 : Int32) = xc0
        · refine oWk.to (mkF m 75 #[rv xa, iv xc3, iv 0, iv xc0] []) (fun _ kt => zY X hx hby d4_59 rfl rfl (teq h92_0).1 (pc' := 75) rfl kt) ?_
          refine oWk.to (mkF m 76 #[rv xa, iv xc3, iv 0, iv xc0] [(.int 0)]) (fun _ kt => zK X hx hby d4_75 rfl kt) ?_
          exact oRetZ X hx hlk hret (hb hby d4_76) (Or.inl rfl) (by rw [e0]; exact ⟨(by rw [oBi_f (fun q => q.2.2.1.2.1 h92_0.symm)]), rfl, K⟩) (by decide) (by decide)
        · refine oWk.to (mkF m 62 #[rv xa, iv xc3, iv 0, iv xc0] []) (fun _ kt => zN X hx hby d4_59 rfl rfl (feq h92_0).1 kt) ?_
          refine oWk.to (mkF m 65 #[rv xa, iv xc3, iv 0, iv xc0] [(.int xc0), (.int 58)]) (fun _ kt => zL X hx hby d4_62 rfl (zI X hx hby d4_64 rfl rfl kt)) ?_
          by_cases h58_0 : (58 : Int32) = xc0
          · refine oWk.to (mkF m 75 #[rv xa, iv xc3, iv 0, iv xc0] []) (fun _ kt => zY X hx hby d4_65 rfl rfl (teq h58_0).1 (pc' := 75) rfl kt) ?_
            refine oWk.to (mkF m 76 #[rv xa, iv xc3, iv 0, iv xc0] [(.int 0)]) (fun _ kt => zK X hx hby d4_75 rfl kt) ?_
            exact oRetZ X hx hlk hret (hb hby d4_76) (Or.inl rfl) (by rw [e0]; exact ⟨(by rw [oBi_f (fun q => q.2.2.1.2.2.1 h58_0.symm)]), rfl, K⟩) (by decide) (by decide)
          · refine oWk.to (mkF m 68 #[rv xa, iv xc3, iv 0, iv xc0] []) (fun _ kt => zN X hx hby d4_65 rfl rfl (feq h58_0).1 kt) ?_
            refine oWk.st (fun _ kt => zI X hx hby d4_68 rfl rfl kt) ?_
            obtain ⟨T, L12, X, e0, K, st⟩ := (cs18 hw).pure X hx hZ hown e0 K (A := [(.int xc0)]) rfl (rIso l Z a0 hw [] xc0 h0 Oh (oR8 hr0)) (fun _ _ _ q => q) (W := 0) (by decide) hml (Ls := #[rv xa, iv xc3, iv 0, iv xc0]) rfl (rest := []) rfl rfl hby d4_69
            refine oWk.to (mkF m 72 #[rv xa, iv xc3, iv 0, iv xc0] [(.int (oBi (oIso xc0)))]) (fun _ kt => st _ kt) ?_
            by_cases hio_0 : oIso xc0
            · refine oWk.to (mkF m 75 #[rv xa, iv xc3, iv 0, iv xc0] []) (fun _ kt => zH X hx hby d4_72 rfl rfl ((if0 _ _).trans (feq (oBi_ne hio_0)).1) kt) ?_
              refine oWk.to (mkF m 76 #[rv xa, iv xc3, iv 0, iv xc0] [(.int 0)]) (fun _ kt => zK X hx hby d4_75 rfl kt) ?_
              exact oRetZ X hx hlk hret (hb hby d4_76) (Or.inl rfl) (by rw [e0]; exact ⟨(by rw [oBi_f (fun q => q.2.2.1.2.2.2 hio_0)]), rfl, K⟩) (by decide) (by decide)
            · refine oWk.to (mkF m 77 #[rv xa, iv xc3, iv 0, iv xc0] []) (fun _ kt => zF X hx hby d4_72 rfl rfl ((if0 _ _).trans (teq (oBi_f hio_0)).1) (pc' := 77) rfl kt) ?_
              refine oWk.st (fun _ kt => zC X hx hby d4_77 rfl rfl (l' := #[rv xa, iv xc3, iv ((0 : Int32) + (1 : Int32)), iv xc0]) rfl (zG X hx hby d4_80 rfl (pc' := 36) rfl (zI X hx hby d4_36 rfl rfl (zA X hx hby d4_37 rfl rfl rfl kt)))) ?_
              obtain ⟨T, L14, X, e0, K, st⟩ := (cs16 hw).pure X hx hZ hown e0 K (A := [(.ref xa)]) ⟨rfl, _, _, rfl, E_xa⟩ (rLn_4 l Z a0 hw [] xa xb xk xz xc0 xc1 xc2 xc3 h0 Oh S_COMPACT_STRINGS hz E_xa F_coder_xa F_value_xa V_xb) (fun _ _ _ q => q) (W := 1) (by decide) hml (Ls := #[rv xa, iv xc3, iv 1, iv xc0]) rfl (rest := [(.int (1 : Int32))]) rfl rfl hby d4_38
              refine oWk.st (fun _ kt => st _ (zN X hx hby d4_41 rfl rfl (tlt (by decide)).2.1 (zA X hx hby d4_44 rfl rfl rfl (zI X hx hby d4_45 rfl rfl kt)))) ?_
              obtain ⟨T, L16, X, e0, K, st⟩ := (cs17 hw).pure X hx hZ hown e0 K (A := [(.ref xa), (.int (1 : Int32))]) ⟨rfl, _, _, rfl, E_xa⟩ (rCA_4_1 l Z a0 hw [] xa xb xk xfm xz xc0 xc1 xc2 xc3 h0 Oh S_COMPACT_STRINGS hz S_SIOOBE_FORMATTER hcat hr1 E_xa F_coder_xa F_value_xa V_xb) (fun _ _ _ q => q) (W := 0) (by decide) hml (Ls := #[rv xa, iv xc3, iv 1, iv xc0]) rfl (rest := []) rfl rfl hby d4_46
              refine oWk.to (mkF m 53 #[rv xa, iv xc3, iv 1, iv xc1] [(.int xc1), (.int 47)]) (fun _ kt => st _ (zSn X hx hby d4_49 rfl rfl (l' := #[rv xa, iv xc3, iv 1, iv xc1]) rfl (zL X hx hby d4_50 rfl (zI X hx hby d4_52 rfl rfl kt)))) ?_
              by_cases h47_1 : (47 : Int32) = xc1
              · refine oWk.to (mkF m 75 #[rv xa, iv xc3, iv 1, iv xc1] []) (fun _ kt => zY X hx hby d4_53 rfl rfl (teq h47_1).1 (pc' := 75) rfl kt) ?_
                refine oWk.to (mkF m 76 #[rv xa, iv xc3, iv 1, iv xc1] [(.int 0)]) (fun _ kt => zK X hx hby d4_75 rfl kt) ?_
                exact oRetZ X hx hlk hret (hb hby d4_76) (Or.inl rfl) (by rw [e0]; exact ⟨(by rw [oBi_f (fun q => q.2.2.2.1.1 h47_1.symm)]), rfl, K⟩) (by decide) (by decide)
              · refine oWk.to (mkF m 56 #[rv xa, iv xc3, iv 1, iv xc1] []) (fun _ kt => zN X hx hby d4_53 rfl rfl (feq h47_1).1 kt) ?_
                refine oWk.to (mkF m 59 #[rv xa, iv xc3, iv 1, iv xc1] [(.int xc1), (.int 92)]) (fun _ kt => zL X hx hby d4_56 rfl (zI X hx hby d4_58 rfl rfl kt)) ?_
                by_cases h92_1 : (92 : Int32) = xc1
                · refine oWk.to (mkF m 75 #[rv xa, iv xc3, iv 1, iv xc1] []) (fun _ kt => zY X hx hby d4_59 rfl rfl (teq h92_1).1 (pc' := 75) rfl kt) ?_
                  refine oWk.to (mkF m 76 #[rv xa, iv xc3, iv 1, iv xc1] [(.int 0)]) (fun _ kt => zK X hx hby d4_75 rfl kt) ?_
                  exact oRetZ X hx hlk hret (hb hby d4_76) (Or.inl rfl) (by rw [e0]; exact ⟨(by rw [oBi_f (fun q => q.2.2.2.1.2.1 h92_1.symm)]), rfl, K⟩) (by decide) (by decide)
                · refine oWk.to (mkF m 62 #[rv xa, iv xc3, iv 1, iv xc1] []) (fun _ kt => zN X hx hby d4_59 rfl rfl (feq h92_1).1 kt) ?_
                  refine oWk.to (mkF m 65 #[rv xa, iv xc3, iv 1, iv xc1] [(.int xc1), (.int 58)]) (fun _ kt => zL X hx hby d4_62 rfl (zI X hx hby d4_64 rfl rfl kt)) ?_
                  by_cases h58_1 : (58 : Int32) = xc1
                  · refine oWk.to (mkF m 75 #[rv xa, iv xc3, iv 1, iv xc1] []) (fun _ kt => zY X hx hby d4_65 rfl rfl (teq h58_1).1 (pc' := 75) rfl kt) ?_
                    refine oWk.to (mkF m 76 #[rv xa, iv xc3, iv 1, iv xc1] [(.int 0)]) (fun _ kt => zK X hx hby d4_75 rfl kt) ?_
                    exact oRetZ X hx hlk hret (hb hby d4_76) (Or.inl rfl) (by rw [e0]; exact ⟨(by rw [oBi_f (fun q => q.2.2.2.1.2.2.1 h58_1.symm)]), rfl, K⟩) (by decide) (by decide)
                  · refine oWk.to (mkF m 68 #[rv xa, iv xc3, iv 1, iv xc1] []) (fun _ kt => zN X hx hby d4_65 rfl rfl (feq h58_1).1 kt) ?_
                    refine oWk.st (fun _ kt => zI X hx hby d4_68 rfl rfl kt) ?_
                    obtain ⟨T, L18, X, e0, K, st⟩ := (cs18 hw).pure X hx hZ hown e0 K (A := [(.int xc1)]) rfl (rIso l Z a0 hw [] xc1 h0 Oh (oR8 hr1)) (fun _ _ _ q => q) (W := 0) (by decide) hml (Ls := #[rv xa, iv xc3, iv 1, iv xc1]) rfl (rest := []) rfl rfl hby d4_69
                    refine oWk.to (mkF m 72 #[rv xa, iv xc3, iv 1, iv xc1] [(.int (oBi (oIso xc1)))]) (fun _ kt => st _ kt) ?_
                    by_cases hio_1 : oIso xc1
                    · refine oWk.to (mkF m 75 #[rv xa, iv xc3, iv 1, iv xc1] []) (fun _ kt => zH X hx hby d4_72 rfl rfl ((if0 _ _).trans (feq (oBi_ne hio_1)).1) kt) ?_
                      refine oWk.to (mkF m 76 #[rv xa, iv xc3, iv 1, iv xc1] [(.int 0)]) (fun _ kt => zK X hx hby d4_75 rfl kt) ?_
                      exact oRetZ X hx hlk hret (hb hby d4_76) (Or.inl rfl) (by rw [e0]; exact ⟨(by rw [oBi_f (fun q => q.2.2.2.1.2.2.2 hio_1)]), rfl, K⟩) (by decide) (by decide)
                    · refine oWk.to (mkF m 77 #[rv xa, iv xc3, iv 1, iv xc1] []) (fun _ kt => zF X hx hby d4_72 rfl rfl ((if0 _ _).trans (teq (oBi_f hio_1)).1) (pc' := 77) rfl kt) ?_
                      refine oWk.st (fun _ kt => zC X hx hby d4_77 rfl rfl (l' := #[rv xa, iv xc3, iv ((1 : Int32) + (1 : Int32)), iv xc1]) rfl (zG X hx hby d4_80 rfl (pc' := 36) rfl (zI X hx hby d4_36 rfl rfl (zA X hx hby d4_37 rfl rfl rfl kt)))) ?_
                      obtain ⟨T, L20, X, e0, K, st⟩ := (cs16 hw).pure X hx hZ hown e0 K (A := [(.ref xa)]) ⟨rfl, _, _, rfl, E_xa⟩ (rLn_4 l Z a0 hw [] xa xb xk xz xc0 xc1 xc2 xc3 h0 Oh S_COMPACT_STRINGS hz E_xa F_coder_xa F_value_xa V_xb) (fun _ _ _ q => q) (W := 1) (by decide) hml (Ls := #[rv xa, iv xc3, iv 2, iv xc1]) rfl (rest := [(.int (2 : Int32))]) rfl rfl hby d4_38
                      refine oWk.st (fun _ kt => st _ (zN X hx hby d4_41 rfl rfl (tlt (by decide)).2.1 (zA X hx hby d4_44 rfl rfl rfl (zI X hx hby d4_45 rfl rfl kt)))) ?_
                      obtain ⟨T, L22, X, e0, K, st⟩ := (cs17 hw).pure X hx hZ hown e0 K (A := [(.ref xa), (.int (2 : Int32))]) ⟨rfl, _, _, rfl, E_xa⟩ (rCA_4_2 l Z a0 hw [] xa xb xk xfm xz xc0 xc1 xc2 xc3 h0 Oh S_COMPACT_STRINGS hz S_SIOOBE_FORMATTER hcat hr2 E_xa F_coder_xa F_value_xa V_xb) (fun _ _ _ q => q) (W := 0) (by decide) hml (Ls := #[rv xa, iv xc3, iv 2, iv xc1]) rfl (rest := []) rfl rfl hby d4_46
                      refine oWk.to (mkF m 53 #[rv xa, iv xc3, iv 2, iv xc2] [(.int xc2), (.int 47)]) (fun _ kt => st _ (zSn X hx hby d4_49 rfl rfl (l' := #[rv xa, iv xc3, iv 2, iv xc2]) rfl (zL X hx hby d4_50 rfl (zI X hx hby d4_52 rfl rfl kt)))) ?_
                      by_cases h47_2 : (47 : Int32) = xc2
                      · refine oWk.to (mkF m 75 #[rv xa, iv xc3, iv 2, iv xc2] []) (fun _ kt => zY X hx hby d4_53 rfl rfl (teq h47_2).1 (pc' := 75) rfl kt) ?_
                        refine oWk.to (mkF m 76 #[rv xa, iv xc3, iv 2, iv xc2] [(.int 0)]) (fun _ kt => zK X hx hby d4_75 rfl kt) ?_
                        exact oRetZ X hx hlk hret (hb hby d4_76) (Or.inl rfl) (by rw [e0]; exact ⟨(by rw [oBi_f (fun q => q.2.2.2.2.1.1 h47_2.symm)]), rfl, K⟩) (by decide) (by decide)
                      · refine oWk.to (mkF m 56 #[rv xa, iv xc3, iv 2, iv xc2] []) (fun _ kt => zN X hx hby d4_53 rfl rfl (feq h47_2).1 kt) ?_
                        refine oWk.to (mkF m 59 #[rv xa, iv xc3, iv 2, iv xc2] [(.int xc2), (.int 92)]) (fun _ kt => zL X hx hby d4_56 rfl (zI X hx hby d4_58 rfl rfl kt)) ?_
                        by_cases h92_2 : (92 : Int32) = xc2
                        · refine oWk.to (mkF m 75 #[rv xa, iv xc3, iv 2, iv xc2] []) (fun _ kt => zY X hx hby d4_59 rfl rfl (teq h92_2).1 (pc' := 75) rfl kt) ?_
                          refine oWk.to (mkF m 76 #[rv xa, iv xc3, iv 2, iv xc2] [(.int 0)]) (fun _ kt => zK X hx hby d4_75 rfl kt) ?_
                          exact oRetZ X hx hlk hret (hb hby d4_76) (Or.inl rfl) (by rw [e0]; exact ⟨(by rw [oBi_f (fun q => q.2.2.2.2.1.2.1 h92_2.symm)]), rfl, K⟩) (by decide) (by decide)
                        · refine oWk.to (mkF m 62 #[rv xa, iv xc3, iv 2, iv xc2] []) (fun _ kt => zN X hx hby d4_59 rfl rfl (feq h92_2).1 kt) ?_
                          refine oWk.to (mkF m 65 #[rv xa, iv xc3, iv 2, iv xc2] [(.int xc2), (.int 58)]) (fun _ kt => zL X hx hby d4_62 rfl (zI X hx hby d4_64 rfl rfl kt)) ?_
                          by_cases h58_2 : (58 : Int32) = xc2
                          · refine oWk.to (mkF m 75 #[rv xa, iv xc3, iv 2, iv xc2] []) (fun _ kt => zY X hx hby d4_65 rfl rfl (teq h58_2).1 (pc' := 75) rfl kt) ?_
                            refine oWk.to (mkF m 76 #[rv xa, iv xc3, iv 2, iv xc2] [(.int 0)]) (fun _ kt => zK X hx hby d4_75 rfl kt) ?_
                            exact oRetZ X hx hlk hret (hb hby d4_76) (Or.inl rfl) (by rw [e0]; exact ⟨(by rw [oBi_f (fun q => q.2.2.2.2.1.2.2.1 h58_2.symm)]), rfl, K⟩) (by decide) (by decide)
                          · refine oWk.to (mkF m 68 #[rv xa, iv xc3, iv 2, iv xc2] []) (fun _ kt => zN X hx hby d4_65 rfl rfl (feq h58_2).1 kt) ?_
                            refine oWk.st (fun _ kt => zI X hx hby d4_68 rfl rfl kt) ?_
                            obtain ⟨T, L24, X, e0, K, st⟩ := (cs18 hw).pure X hx hZ hown e0 K (A := [(.int xc2)]) rfl (rIso l Z a0 hw [] xc2 h0 Oh (oR8 hr2)) (fun _ _ _ q => q) (W := 0) (by decide) hml (Ls := #[rv xa, iv xc3, iv 2, iv xc2]) rfl (rest := []) rfl rfl hby d4_69
                            refine oWk.to (mkF m 72 #[rv xa, iv xc3, iv 2, iv xc2] [(.int (oBi (oIso xc2)))]) (fun _ kt => st _ kt) ?_
                            by_cases hio_2 : oIso xc2
                            · refine oWk.to (mkF m 75 #[rv xa, iv xc3, iv 2, iv xc2] []) (fun _ kt => zH X hx hby d4_72 rfl rfl ((if0 _ _).trans (feq (oBi_ne hio_2)).1) kt) ?_
                              refine oWk.to (mkF m 76 #[rv xa, iv xc3, iv 2, iv xc2] [(.int 0)]) (fun _ kt => zK X hx hby d4_75 rfl kt) ?_
                              exact oRetZ X hx hlk hret (hb hby d4_76) (Or.inl rfl) (by rw [e0]; exact ⟨(by rw [oBi_f (fun q => q.2.2.2.2.1.2.2.2 hio_2)]), rfl, K⟩) (by decide) (by decide)
                            · refine oWk.to (mkF m 77 #[rv xa, iv xc3, iv 2, iv xc2] []) (fun _ kt => zF X hx hby d4_72 rfl rfl ((if0 _ _).trans (teq (oBi_f hio_2)).1) (pc' := 77) rfl kt) ?_
                              refine oWk.st (fun _ kt => zC X hx hby d4_77 rfl rfl (l' := #[rv xa, iv xc3, iv ((2 : Int32) + (1 : Int32)), iv xc2]) rfl (zG X hx hby d4_80 rfl (pc' := 36) rfl (zI X hx hby d4_36 rfl rfl (zA X hx hby d4_37 rfl rfl rfl kt)))) ?_
                              obtain ⟨T, L26, X, e0, K, st⟩ := (cs16 hw).pure X hx hZ hown e0 K (A := [(.ref xa)]) ⟨rfl, _, _, rfl, E_xa⟩ (rLn_4 l Z a0 hw [] xa xb xk xz xc0 xc1 xc2 xc3 h0 Oh S_COMPACT_STRINGS hz E_xa F_coder_xa F_value_xa V_xb) (fun _ _ _ q => q) (W := 1) (by decide) hml (Ls := #[rv xa, iv xc3, iv 3, iv xc2]) rfl (rest := [(.int (3 : Int32))]) rfl rfl hby d4_38
                              refine oWk.st (fun _ kt => st _ (zN X hx hby d4_41 rfl rfl (tlt (by decide)).2.1 (zA X hx hby d4_44 rfl rfl rfl (zI X hx hby d4_45 rfl rfl kt)))) ?_
                              obtain ⟨T, L28, X, e0, K, st⟩ := (cs17 hw).pure X hx hZ hown e0 K (A := [(.ref xa), (.int (3 : Int32))]) ⟨rfl, _, _, rfl, E_xa⟩ (rCA_4_3 l Z a0 hw [] xa xb xk xfm xz xc0 xc1 xc2 xc3 h0 Oh S_COMPACT_STRINGS hz S_SIOOBE_FORMATTER hcat hr3 E_xa F_coder_xa F_value_xa V_xb) (fun _ _ _ q => q) (W := 0) (by decide) hml (Ls := #[rv xa, iv xc3, iv 3, iv xc2]) rfl (rest := []) rfl rfl hby d4_46
                              refine oWk.to (mkF m 53 #[rv xa, iv xc3, iv 3, iv xc3] [(.int xc3), (.int 47)]) (fun _ kt => st _ (zSn X hx hby d4_49 rfl rfl (l' := #[rv xa, iv xc3, iv 3, iv xc3]) rfl (zL X hx hby d4_50 rfl (zI X hx hby d4_52 rfl rfl kt)))) ?_
                              by_cases h47_3 : (47 : Int32) = xc3
                              · refine oWk.to (mkF m 75 #[rv xa, iv xc3, iv 3, iv xc3] []) (fun _ kt => zY X hx hby d4_53 rfl rfl (teq h47_3).1 (pc' := 75) rfl kt) ?_
                                refine oWk.to (mkF m 76 #[rv xa, iv xc3, iv 3, iv xc3] [(.int 0)]) (fun _ kt => zK X hx hby d4_75 rfl kt) ?_
                                exact oRetZ X hx hlk hret (hb hby d4_76) (Or.inl rfl) (by rw [e0]; exact ⟨(by rw [oBi_f (fun q => q.2.2.2.2.2.1 h47_3.symm)]), rfl, K⟩) (by decide) (by decide)
                              · refine oWk.to (mkF m 56 #[rv xa, iv xc3, iv 3, iv xc3] []) (fun _ kt => zN X hx hby d4_53 rfl rfl (feq h47_3).1 kt) ?_
                                refine oWk.to (mkF m 59 #[rv xa, iv xc3, iv 3, iv xc3] [(.int xc3), (.int 92)]) (fun _ kt => zL X hx hby d4_56 rfl (zI X hx hby d4_58 rfl rfl kt)) ?_
                                by_cases h92_3 : (92 : Int32) = xc3
                                · refine oWk.to (mkF m 75 #[rv xa, iv xc3, iv 3, iv xc3] []) (fun _ kt => zY X hx hby d4_59 rfl rfl (teq h92_3).1 (pc' := 75) rfl kt) ?_
                                  refine oWk.to (mkF m 76 #[rv xa, iv xc3, iv 3, iv xc3] [(.int 0)]) (fun _ kt => zK X hx hby d4_75 rfl kt) ?_
                                  exact oRetZ X hx hlk hret (hb hby d4_76) (Or.inl rfl) (by rw [e0]; exact ⟨(by rw [oBi_f (fun q => q.2.2.2.2.2.2.1 h92_3.symm)]), rfl, K⟩) (by decide) (by decide)
                                · refine oWk.to (mkF m 62 #[rv xa, iv xc3, iv 3, iv xc3] []) (fun _ kt => zN X hx hby d4_59 rfl rfl (feq h92_3).1 kt) ?_
                                  refine oWk.to (mkF m 65 #[rv xa, iv xc3, iv 3, iv xc3] [(.int xc3), (.int 58)]) (fun _ kt => zL X hx hby d4_62 rfl (zI X hx hby d4_64 rfl rfl kt)) ?_
                                  by_cases h58_3 : (58 : Int32) = xc3
                                  · refine oWk.to (mkF m 75 #[rv xa, iv xc3, iv 3, iv xc3] []) (fun _ kt => zY X hx hby d4_65 rfl rfl (teq h58_3).1 (pc' := 75) rfl kt) ?_
                                    refine oWk.to (mkF m 76 #[rv xa, iv xc3, iv 3, iv xc3] [(.int 0)]) (fun _ kt => zK X hx hby d4_75 rfl kt) ?_
                                    exact oRetZ X hx hlk hret (hb hby d4_76) (Or.inl rfl) (by rw [e0]; exact ⟨(by rw [oBi_f (fun q => q.2.2.2.2.2.2.2.1 h58_3.symm)]), rfl, K⟩) (by decide) (by decide)
                                  · refine oWk.to (mkF m 68 #[rv xa, iv xc3, iv 3, iv xc3] []) (fun _ kt => zN X hx hby d4_65 rfl rfl (feq h58_3).1 kt) ?_
                                    refine oWk.st (fun _ kt => zI X hx hby d4_68 rfl rfl kt) ?_
                                    obtain ⟨T, L30, X, e0, K, st⟩ := (cs18 hw).pure X hx hZ hown e0 K (A := [(.int xc3)]) rfl (rIso l Z a0 hw [] xc3 h0 Oh (oR8 hr3)) (fun _ _ _ q => q) (W := 0) (by decide) hml (Ls := #[rv xa, iv xc3, iv 3, iv xc3]) rfl (rest := []) rfl rfl hby d4_69
                                    refine oWk.to (mkF m 72 #[rv xa, iv xc3, iv 3, iv xc3] [(.int (oBi (oIso xc3)))]) (fun _ kt => st _ kt) ?_
                                    by_cases hio_3 : oIso xc3
                                    · refine oWk.to (mkF m 75 #[rv xa, iv xc3, iv 3, iv xc3] []) (fun _ kt => zH X hx hby d4_72 rfl rfl ((if0 _ _).trans (feq (oBi_ne hio_3)).1) kt) ?_
                                      refine oWk.to (mkF m 76 #[rv xa, iv xc3, iv 3, iv xc3] [(.int 0)]) (fun _ kt => zK X hx hby d4_75 rfl kt) ?_
                                      exact oRetZ X hx hlk hret (hb hby d4_76) (Or.inl rfl) (by rw [e0]; exact ⟨(by rw [oBi_f (fun q => q.2.2.2.2.2.2.2.2 hio_3)]), rfl, K⟩) (by decide) (by decide)
                                    · refine oWk.to (mkF m 77 #[rv xa, iv xc3, iv 3, iv xc3] []) (fun _ kt => zF X hx hby d4_72 rfl rfl ((if0 _ _).trans (teq (oBi_f hio_3)).1) (pc' := 77) rfl kt) ?_
                                      refine oWk.st (fun _ kt => zC X hx hby d4_77 rfl rfl (l' := #[rv xa, iv xc3, iv ((3 : Int32) + (1 : Int32)), iv xc3]) rfl (zG X hx hby d4_80 rfl (pc' := 36) rfl (zI X hx hby d4_36 rfl rfl (zA X hx hby d4_37 rfl rfl rfl kt)))) ?_
                                      obtain ⟨T, L32, X, e0, K, st⟩ := (cs16 hw).pure X hx hZ hown e0 K (A := [(.ref xa)]) ⟨rfl, _, _, rfl, E_xa⟩ (rLn_4 l Z a0 hw [] xa xb xk xz xc0 xc1 xc2 xc3 h0 Oh S_COMPACT_STRINGS hz E_xa F_coder_xa F_value_xa V_xb) (fun _ _ _ q => q) (W := 1) (by decide) hml (Ls := #[rv xa, iv xc3, iv 4, iv xc3]) rfl (rest := [(.int (4 : Int32))]) rfl rfl hby d4_38
                                      refine oWk.to (mkF m 84 #[rv xa, iv xc3, iv 4, iv xc3] [(.int 1)]) (fun _ kt => st _ (zY X hx hby d4_41 rfl rfl (flt (by decide)).2.1 (pc' := 83) rfl (zK X hx hby d4_83 rfl kt))) ?_
                                      exact oRetZ X hx hlk hret (hb hby d4_84) (Or.inr rfl) (by rw [e0]; exact ⟨(by rw [oBi_t ⟨fun q => hq46 q.symm, fun q => hq32 q.symm, ⟨fun q => h47_0 q.symm, fun q => h92_0 q.symm, fun q => h58_0 q.symm, hio_0⟩, ⟨fun q => h47_1 q.symm, fun q => h92_1 q.symm, fun q => h58_1 q.symm, hio_1⟩, ⟨fun q => h47_2 q.symm, fun q => h92_2 q.symm, fun q => h58_2 q.symm, hio_2⟩, ⟨fun q => h47_3 q.symm, fun q => h92_3 q.symm, fun q => h58_3 q.symm, hio_3⟩⟩]), rfl, K⟩) (by decide) (by decide)
def Q_rEmU_4 (Z : State) (xa xb : Addr) (xk : ClassId) (xc0 xc1 xc2 xc3 : Int32) (h0 : Heap) (v : Option Value) (h : Heap) (L : List Loc) : Prop := v = some (.int (0 : Int32)) ∧ h = h0 ∧ oKp h0 h [] L
theorem rEmU_4 (l : Launch) (Z : State) (a0 : Array Value) (hw : oHW a0 Z) (ws : List Jvm.Cond) (xa xb : Addr) (xk : ClassId) (xc0 xc1 xc2 xc3 : Int32) (h0 : Heap) (O0 : Ext Z.heap h0) (F_value_xa : Fld Z h0 xa Y0 "value" "[B" (.ref xb)) (V_xb : Arv Z h0 xb xk .byte (8 : Int32) [(iu0 xc0), (iu8 xc0), (iu0 xc1), (iu8 xc1), (iu0 xc2), (iu8 xc2), (iu0 xc3), (iu8 xc3)] (.int (0 : Int32))) :
    oCon l Z yy13 jdk_42_method_55_code 1 (some .boolean) ws ({ frames := 0, cells := 0, slots := 0, locals := 0 } : Room) #[(.ref xa)] h0 (Q_rEmU_4 Z xa xb xk xc0 xc1 xc2 xc3 h0) := by
  refine oCon.of (plainFor_of_name pn_2) ?_
  intro p e s m below meth c T X hx hby hml hown hnm hret hlk hZ e0
  have hml : c.maxLocals = 1 := hml
  have K : oKp h0 h0 [] [] := oKp.nil _ _
  refine oWk.cast (g' := (mkF m 0 #[rv xa] [])) (by first | rfl | (simp [entryFrame, mkF, argsToLocals, Value.category]; done)) ?_
  refine oWk.st (fun _ kt => zA X hx hby d5_0 rfl rfl rfl kt) ?_
  obtain ⟨T, X, e0, st⟩ := getF X hx hZ hown (host := "") (Or.inl (oW hw 22 rfl)) Via.refl e0 F_value_xa (g := (mkF m 1 #[rv xa] [(.ref xa)])) rfl rfl (hb hby d5_1)
  refine oWk.to (mkF m 13 #[rv xa] [(.int 0)]) (fun _ kt => st _ (oAl X hx hZ e0 V_xb hby d5_4 rfl rfl (zF X hx hby d5_5 rfl rfl ((if0 _ _).trans (feq (by decide)).2) (pc' := 12) rfl (zK X hx hby d5_12 rfl kt)))) ?_
  exact oRetZ X hx hlk hret (hb hby d5_13) (Or.inl rfl) (by rw [e0]; exact ⟨rfl, rfl, K⟩) (by decide) (by decide)
def Q_rLnU_4 (Z : State) (xa xb : Addr) (xk : ClassId) (xz xc0 xc1 xc2 xc3 : Int32) (h0 : Heap) (v : Option Value) (h : Heap) (L : List Loc) : Prop := v = some (.int (4 : Int32)) ∧ h = h0 ∧ oKp h0 h [] L
theorem rLnU_4 (l : Launch) (Z : State) (a0 : Array Value) (hw : oHW a0 Z) (ws : List Jvm.Cond) (xa xb : Addr) (xk : ClassId) (xz xc0 xc1 xc2 xc3 : Int32) (h0 : Heap) (O0 : Ext Z.heap h0) (S_COMPACT_STRINGS : Sta Z Z.heap Y0 Y6 "Z" (.int xz)) (hz : ¬ xz = (0 : Int32)) (E_xa : Exa Z h0 xa Y0) (F_coder_xa : Fld Z h0 xa Y0 "coder" "B" (.int (1 : Int32))) (F_value_xa : Fld Z h0 xa Y0 "value" "[B" (.ref xb)) (V_xb : Arv Z h0 xb xk .byte (8 : Int32) [(iu0 xc0), (iu8 xc0), (iu0 xc1), (iu8 xc1), (iu0 xc2), (iu8 xc2), (iu0 xc3), (iu8 xc3)] (.int (0 : Int32))) :
    oCon l Z yy16 jdk_42_method_54_code 1 (some .int) ws ({ frames := 1, cells := 0, slots := 0, locals := 13 } : Room) #[(.ref xa)] h0 (Q_rLnU_4 Z xa xb xk xz xc0 xc1 xc2 xc3 h0) := by
  refine oCon.of (plainFor_of_name pn_2) ?_
  intro p e s m below meth c T X hx hby hml hown hnm hret hlk hZ e0
  have hml : c.maxLocals = 1 := hml
  have K : oKp h0 h0 [] [] := oKp.nil _ _
  refine oWk.cast (g' := (mkF m 0 #[rv xa] [])) (by first | rfl | (simp [entryFrame, mkF, argsToLocals, Value.category]; done)) ?_
  refine oWk.st (fun _ kt => zA X hx hby d10_0 rfl rfl rfl kt) ?_
  obtain ⟨T, X, e0, st⟩ := getF X hx hZ hown (host := "") (Or.inl (oW hw 22 rfl)) Via.refl e0 F_value_xa (g := (mkF m 1 #[rv xa] [(.ref xa)])) rfl rfl (hb hby d10_1)
  refine oWk.st (fun _ kt => st _ (oAl X hx hZ e0 V_xb hby d10_4 rfl rfl (zA X hx hby d10_5 rfl rfl rfl kt))) ?_
  have Oh := K.old O0 all0
  obtain ⟨T, L3, X, e0, K, st⟩ := (cs11 hw).pure X hx hZ hown e0 K (A := [(.ref xa)]) ⟨rfl, _, _, rfl, E_xa⟩ (rCdr1 l Z a0 hw [] xa xz h0 Oh S_COMPACT_STRINGS hz F_coder_xa) (fun _ _ _ q => q) (W := 1) (by decide) hml (Ls := #[rv xa]) rfl (rest := [(.int (8 : Int32))]) rfl rfl hby d10_6
  refine oWk.to (mkF m 10 #[rv xa] [(.int 4)]) (fun _ kt => st _ (XS.ishr X.here hx rfl (hb hby d10_9) rfl kt)) ?_
  exact oRetI X hx hlk hret (hb hby d10_10) (by rw [e0]; exact ⟨rfl, rfl, K⟩) (by decide) (by decide)
def Q_rUL_4 (Z : State) (xb : Addr) (xk : ClassId) (xc0 xc1 xc2 xc3 : Int32) (h0 : Heap) (v : Option Value) (h : Heap) (L : List Loc) : Prop := v = some (.int (4 : Int32)) ∧ h = h0 ∧ oKp h0 h [] L
theorem rUL_4 (l : Launch) (Z : State) (a0 : Array Value) (hw : oHW a0 Z) (ws : List Jvm.Cond) (xb : Addr) (xk : ClassId) (xc0 xc1 xc2 xc3 : Int32) (h0 : Heap) (O0 : Ext Z.heap h0) (V_xb : Arv Z h0 xb xk .byte (8 : Int32) [(iu0 xc0), (iu8 xc0), (iu0 xc1), (iu8 xc1), (iu0 xc2), (iu8 xc2), (iu0 xc3), (iu8 xc3)] (.int (0 : Int32))) :
    oCon l Z yy22 jdk_52_method_6_code 1 (some .int) ws ({ frames := 0, cells := 0, slots := 0, locals := 0 } : Room) #[(.ref xb)] h0 (Q_rUL_4 Z xb xk xc0 xc1 xc2 xc3 h0) := by
  refine oCon.of (plainFor_of_name pn_3) ?_
  intro p e s m below meth c T X hx hby hml hown hnm hret hlk hZ e0
  have hml : c.maxLocals = 1 := hml
  have K : oKp h0 h0 [] [] := oKp.nil _ _
  refine oWk.cast (g' := (mkF m 0 #[rv xb] [])) (by first | rfl | (simp [entryFrame, mkF, argsToLocals, Value.category]; done)) ?_
  refine oWk.to (mkF m 4 #[rv xb] [(.int 4)]) (fun _ kt => zA X hx hby d26_0 rfl rfl rfl (oAl X hx hZ e0 V_xb hby d26_1 rfl rfl (zK X hx hby d26_2 rfl (XS.ishr X.here hx rfl (hb hby d26_3) rfl kt)))) ?_
  exact oRetI X hx hlk hret (hb hby d26_4) (by rw [e0]; exact ⟨rfl, rfl, K⟩) (by decide) (by decide)
def Q_rUCk_4_0 (Z : State) (xb : Addr) (xk : ClassId) (xfm : Value) (xc0 xc1 xc2 xc3 : Int32) (h0 : Heap) (v : Option Value) (h : Heap) (L : List Loc) : Prop := v = none ∧ h = h0 ∧ oKp h0 h [] L
theorem rUCk_4_0 (l : Launch) (Z : State) (a0 : Array Value) (hw : oHW a0 Z) (ws : List Jvm.Cond) (xb : Addr) (xk : ClassId) (xfm : Value) (xc0 xc1 xc2 xc3 : Int32) (h0 : Heap) (O0 : Ext Z.heap h0) (S_SIOOBE_FORMATTER : Sta Z Z.heap Y2 Y4 Y5 xfm) (hcat : xfm.category = 1) (V_xb : Arv Z h0 xb xk .byte (8 : Int32) [(iu0 xc0), (iu8 xc0), (iu0 xc1), (iu8 xc1), (iu0 xc2), (iu8 xc2), (iu0 xc3), (iu8 xc3)] (.int (0 : Int32))) :
    oCon l Z yy23 jdk_52_method_91_code 2 none ws ({ frames := 2, cells := 0, slots := 0, locals := 27 } : Room) #[(.int (0 : Int32)), (.ref xb)] h0 (Q_rUCk_4_0 Z xb xk xfm xc0 xc1 xc2 xc3 h0) := by
  refine oCon.of (plainFor_of_name pn_3) ?_
  intro p e s m below meth c T X hx hby hml hown hnm hret hlk hZ e0
  have hml : c.maxLocals = 2 := hml
  have K : oKp h0 h0 [] [] := oKp.nil _ _
  refine oWk.cast (g' := (mkF m 0 #[iv 0, rv xb] [])) (by first | rfl | (simp [entryFrame, mkF, argsToLocals, Value.category]; done)) ?_
  refine oWk.st (fun _ kt => zI X hx hby d25_0 rfl rfl (zA X hx hby d25_1 rfl rfl rfl kt)) ?_
  have Oh := K.old O0 all0
  obtain ⟨T, L2, X, e0, K, st⟩ := (cs19 hw).pure X hx hZ hown e0 K (A := [(.ref xb)]) rfl (rUL_4 l Z a0 hw [] xb xk xc0 xc1 xc2 xc3 h0 Oh V_xb) (fun _ _ _ q => q) (W := 1) (by decide) hml (Ls := #[iv 0, rv xb]) rfl (rest := [(.int (0 : Int32))]) rfl rfl hby d25_2
  refine oWk.st (fun _ kt => st _ kt) ?_
  obtain ⟨T, L4, X, e0, K, st⟩ := (cs20 hw).pure X hx hZ hown e0 K (A := [(.int (0 : Int32)), (.int (4 : Int32))]) rfl (rCkI l Z a0 hw [] (0 : Int32) (4 : Int32) xfm h0 Oh S_SIOOBE_FORMATTER hcat (by decide) (by decide)) (fun _ _ _ q => q) (W := 0) (by decide) hml (Ls := #[iv 0, rv xb]) rfl (rest := []) rfl rfl hby d25_5
  refine oWk.to (mkF m 8 #[iv 0, rv xb] []) (fun _ kt => st _ kt) ?_
  exact oRetV X hx hlk hret (hb hby d25_8) (by rw [e0]; exact ⟨rfl, rfl, K⟩) (by decide) (by decide)
def Q_rUC_4_0 (Z : State) (xb : Addr) (xk : ClassId) (xfm : Value) (xc0 xc1 xc2 xc3 : Int32) (h0 : Heap) (v : Option Value) (h : Heap) (L : List Loc) : Prop := v = some (.int xc0) ∧ h = h0 ∧ oKp h0 h [] L
theorem rUC_4_0 (l : Launch) (Z : State) (a0 : Array Value) (hw : oHW a0 Z) (ws : List Jvm.Cond) (xb : Addr) (xk : ClassId) (xfm : Value) (xc0 xc1 xc2 xc3 : Int32) (h0 : Heap) (O0 : Ext Z.heap h0) (S__assertionsDisabled : Sta Z Z.heap Y1 Y3 "Z" (.int (1 : Int32))) (S_HI_BYTE_SHIFT : Sta Z Z.heap Y1 "HI_BYTE_SHIFT" "I" (.int (0 : Int32))) (S_LO_BYTE_SHIFT : Sta Z Z.heap Y1 "LO_BYTE_SHIFT" "I" (.int (8 : Int32))) (S_SIOOBE_FORMATTER : Sta Z Z.heap Y2 Y4 Y5 xfm) (hcat : xfm.category = 1) (hr : 0 ≤ xc0.toInt ∧ xc0.toInt < 65536) (V_xb : Arv Z h0 xb xk .byte (8 : Int32) [(iu0 xc0), (iu8 xc0), (iu0 xc1), (iu8 xc1), (iu0 xc2), (iu8 xc2), (iu0 xc3), (iu8 xc3)] (.int (0 : Int32))) :
    oCon l Z yy24 jdk_52_method_83_code 2 (some .char) ws ({ frames := 3, cells := 0, slots := 0, locals := 40 } : Room) #[(.ref xb), (.int (0 : Int32))] h0 (Q_rUC_4_0 Z xb xk xfm xc0 xc1 xc2 xc3 h0) := by
  refine oCon.of (plainFor_of_name pn_3) ?_
  intro p e s m below meth c T X hx hby hml hown hnm hret hlk hZ e0
  have hml : c.maxLocals = 2 := hml
  have K : oKp h0 h0 [] [] := oKp.nil _ _
  refine oWk.cast (g' := (mkF m 0 #[rv xb, iv 0] [])) (by first | rfl | (simp [entryFrame, mkF, argsToLocals, Value.category]; done)) ?_
  refine oWk.st (fun _ kt => zI X hx hby d24_0 rfl rfl (zA X hx hby d24_1 rfl rfl rfl kt)) ?_
  have Oh := K.old O0 all0
  obtain ⟨T, L2, X, e0, K, st⟩ := (cs21 hw).pure X hx hZ hown e0 K (A := [(.int (0 : Int32)), (.ref xb)]) rfl (rUCk_4_0 l Z a0 hw [] xb xk xfm xc0 xc1 xc2 xc3 h0 Oh S_SIOOBE_FORMATTER hcat V_xb) (fun _ _ _ q => q) (W := 0) (by decide) hml (Ls := #[rv xb, iv 0]) rfl (rest := []) rfl rfl hby d24_2
  refine oWk.st (fun _ kt => st _ (zA X hx hby d24_5 rfl rfl rfl (zI X hx hby d24_6 rfl rfl kt))) ?_
  obtain ⟨T, L4, X, e0, K, st⟩ := (cs9 hw).pure X hx hZ hown e0 K (A := [(.ref xb), (.int (0 : Int32))]) rfl (rGC_4_0 l Z a0 hw [] xb xk xc0 xc1 xc2 xc3 h0 Oh S__assertionsDisabled S_HI_BYTE_SHIFT S_LO_BYTE_SHIFT hr V_xb) (fun _ _ _ q => q) (W := 0) (by decide) hml (Ls := #[rv xb, iv 0]) rfl (rest := []) rfl rfl hby d24_7
  refine oWk.to (mkF m 10 #[rv xb, iv 0] [(.int xc0)]) (fun _ kt => st _ kt) ?_
  exact oRetN X hx hlk hret (Or.inr (Or.inl rfl)) (show narrow .char (.int xc0) = .int xc0 from congrArg Value.int (oChrU hr)) (hb hby d24_10) (by rw [e0]; exact ⟨rfl, rfl, K⟩) (by decide) (by decide)
def Q_rCAU_4_0 (Z : State) (xa xb : Addr) (xk : ClassId) (xfm : Value) (xz xc0 xc1 xc2 xc3 : Int32) (h0 : Heap) (v : Option Value) (h : Heap) (L : List Loc) : Prop := v = some (.int xc0) ∧ h = h0 ∧ oKp h0 h [] L
theorem rCAU_4_0 (l : Launch) (Z : State) (a0 : Array Value) (hw : oHW a0 Z) (ws : List Jvm.Cond) (xa xb : Addr) (xk : ClassId) (xfm : Value) (xz xc0 xc1 xc2 xc3 : Int32) (h0 : Heap) (O0 : Ext Z.heap h0) (S_COMPACT_STRINGS : Sta Z Z.heap Y0 Y6 "Z" (.int xz)) (hz : ¬ xz = (0 : Int32)) (S__assertionsDisabled : Sta Z Z.heap Y1 Y3 "Z" (.int (1 : Int32))) (S_HI_BYTE_SHIFT : Sta Z Z.heap Y1 "HI_BYTE_SHIFT" "I" (.int (0 : Int32))) (S_LO_BYTE_SHIFT : Sta Z Z.heap Y1 "LO_BYTE_SHIFT" "I" (.int (8 : Int32))) (S_SIOOBE_FORMATTER : Sta Z Z.heap Y2 Y4 Y5 xfm) (hcat : xfm.category = 1) (hr : 0 ≤ xc0.toInt ∧ xc0.toInt < 65536) (E_xa : Exa Z h0 xa Y0) (F_coder_xa : Fld Z h0 xa Y0 "coder" "B" (.int (1 : Int32))) (F_value_xa : Fld Z h0 xa Y0 "value" "[B" (.ref xb)) (V_xb : Arv Z h0 xb xk .byte (8 : Int32) [(iu0 xc0), (iu8 xc0), (iu0 xc1), (iu8 xc1), (iu0 xc2), (iu8 xc2), (iu0 xc3), (iu8 xc3)] (.int (0 : Int32))) :
    oCon l Z yy21 jdk_42_method_56_code 2 (some .char) ws ({ frames := 4, cells := 0, slots := 0, locals := 53 } : Room) #[(.ref xa), (.int (0 : Int32))] h0 (Q_rCAU_4_0 Z xa xb xk xfm xz xc0 xc1 xc2 xc3 h0) := by
  refine oCon.of (plainFor_of_name pn_2) ?_
  intro p e s m below meth c T X hx hby hml hown hnm hret hlk hZ e0
  have hml : c.maxLocals = 2 := hml
  have K : oKp h0 h0 [] [] := oKp.nil _ _
  refine oWk.cast (g' := (mkF m 0 #[rv xa, iv 0] [])) (by first | rfl | (simp [entryFrame, mkF, argsToLocals, Value.category]; done)) ?_
  refine oWk.st (fun _ kt => zA X hx hby d12_0 rfl rfl rfl kt) ?_
  have Oh := K.old O0 all0
  obtain ⟨T, L2, X, e0, K, st⟩ := (cs14 hw).pure X hx hZ hown e0 K (A := [(.ref xa)]) ⟨rfl, _, _, rfl, E_xa⟩ (rIsL1 l Z a0 hw [] xa xz h0 Oh S_COMPACT_STRINGS hz F_coder_xa) (fun _ _ _ q => q) (W := 0) (by decide) hml (Ls := #[rv xa, iv 0]) rfl (rest := []) rfl rfl hby d12_1
  refine oWk.st (fun _ kt => st _ (zF X hx hby d12_4 rfl rfl ((if0 _ _).trans (teq (by decide)).1) (pc' := 16) rfl (zA X hx hby d12_16 rfl rfl rfl kt))) ?_
  obtain ⟨T, X, e0, st⟩ := getF X hx hZ hown (host := "") (Or.inl (oW hw 22 rfl)) Via.refl e0 F_value_xa (g := (mkF m 17 #[rv xa, iv 0] [(.ref xa)])) rfl rfl (hb hby d12_17)
  refine oWk.st (fun _ kt => st _ (zI X hx hby d12_20 rfl rfl kt)) ?_
  obtain ⟨T, L4, X, e0, K, st⟩ := (cs22 hw).pure X hx hZ hown e0 K (A := [(.ref xb), (.int (0 : Int32))]) rfl (rUC_4_0 l Z a0 hw [] xb xk xfm xc0 xc1 xc2 xc3 h0 Oh S__assertionsDisabled S_HI_BYTE_SHIFT S_LO_BYTE_SHIFT S_SIOOBE_FORMATTER hcat hr V_xb) (fun _ _ _ q => q) (W := 0) (by decide) hml (Ls := #[rv xa, iv 0]) rfl (rest := []) rfl rfl hby d12_21
  refine oWk.to (mkF m 24 #[rv xa, iv 0] [(.int xc0)]) (fun _ kt => st _ kt) ?_
  exact oRetN X hx hlk hret (Or.inr (Or.inl rfl)) (show narrow .char (.int xc0) = .int xc0 from congrArg Value.int (oChrU hr)) (hb hby d12_24) (by rw [e0]; exact ⟨rfl, rfl, K⟩) (by decide) (by decide)
def Q_rUCk_4_1 (Z : State) (xb : Addr) (xk : ClassId) (xfm : Value) (xc0 xc1 xc2 xc3 : Int32) (h0 : Heap) (v : Option Value) (h : Heap) (L : List Loc) : Prop := v = none ∧ h = h0 ∧ oKp h0 h [] L
theorem rUCk_4_1 (l : Launch) (Z : State) (a0 : Array Value) (hw : oHW a0 Z) (ws : List Jvm.Cond) (xb : Addr) (xk : ClassId) (xfm : Value) (xc0 xc1 xc2 xc3 : Int32) (h0 : Heap) (O0 : Ext Z.heap h0) (S_SIOOBE_FORMATTER : Sta Z Z.heap Y2 Y4 Y5 xfm) (hcat : xfm.category = 1) (V_xb : Arv Z h0 xb xk .byte (8 : Int32) [(iu0 xc0), (iu8 xc0), (iu0 xc1), (iu8 xc1), (iu0 xc2), (iu8 xc2), (iu0 xc3), (iu8 xc3)] (.int (0 : Int32))) :
    oCon l Z yy23 jdk_52_method_91_code 2 none ws ({ frames := 2, cells := 0, slots := 0, locals := 27 } : Room) #[(.int (1 : Int32)), (.ref xb)] h0 (Q_rUCk_4_1 Z xb xk xfm xc0 xc1 xc2 xc3 h0) := by
  refine oCon.of (plainFor_of_name pn_3) ?_
  intro p e s m below meth c T X hx hby hml hown hnm hret hlk hZ e0
  have hml : c.maxLocals = 2 := hml
  have K : oKp h0 h0 [] [] := oKp.nil _ _
  refine oWk.cast (g' := (mkF m 0 #[iv 1, rv xb] [])) (by first | rfl | (simp [entryFrame, mkF, argsToLocals, Value.category]; done)) ?_
  refine oWk.st (fun _ kt => zI X hx hby d25_0 rfl rfl (zA X hx hby d25_1 rfl rfl rfl kt)) ?_
  have Oh := K.old O0 all0
  obtain ⟨T, L2, X, e0, K, st⟩ := (cs19 hw).pure X hx hZ hown e0 K (A := [(.ref xb)]) rfl (rUL_4 l Z a0 hw [] xb xk xc0 xc1 xc2 xc3 h0 Oh V_xb) (fun _ _ _ q => q) (W := 1) (by decide) hml (Ls := #[iv 1, rv xb]) rfl (rest := [(.int (1 : Int32))]) rfl rfl hby d25_2
  refine oWk.st (fun _ kt => st _ kt) ?_
  obtain ⟨T, L4, X, e0, K, st⟩ := (cs20 hw).pure X hx hZ hown e0 K (A := [(.int (1 : Int32)), (.int (4 : Int32))]) rfl (rCkI l Z a0 hw [] (1 : Int32) (4 : Int32) xfm h0 Oh S_SIOOBE_FORMATTER hcat (by decide) (by decide)) (fun _ _ _ q => q) (W := 0) (by decide) hml (Ls := #[iv 1, rv xb]) rfl (rest := []) rfl rfl hby d25_5
  refine oWk.to (mkF m 8 #[iv 1, rv xb] []) (fun _ kt => st _ kt) ?_
  exact oRetV X hx hlk hret (hb hby d25_8) (by rw [e0]; exact ⟨rfl, rfl, K⟩) (by decide) (by decide)
def Q_rUC_4_1 (Z : State) (xb : Addr) (xk : ClassId) (xfm : Value) (xc0 xc1 xc2 xc3 : Int32) (h0 : Heap) (v : Option Value) (h : Heap) (L : List Loc) : Prop := v = some (.int xc1) ∧ h = h0 ∧ oKp h0 h [] L
theorem rUC_4_1 (l : Launch) (Z : State) (a0 : Array Value) (hw : oHW a0 Z) (ws : List Jvm.Cond) (xb : Addr) (xk : ClassId) (xfm : Value) (xc0 xc1 xc2 xc3 : Int32) (h0 : Heap) (O0 : Ext Z.heap h0) (S__assertionsDisabled : Sta Z Z.heap Y1 Y3 "Z" (.int (1 : Int32))) (S_HI_BYTE_SHIFT : Sta Z Z.heap Y1 "HI_BYTE_SHIFT" "I" (.int (0 : Int32))) (S_LO_BYTE_SHIFT : Sta Z Z.heap Y1 "LO_BYTE_SHIFT" "I" (.int (8 : Int32))) (S_SIOOBE_FORMATTER : Sta Z Z.heap Y2 Y4 Y5 xfm) (hcat : xfm.category = 1) (hr : 0 ≤ xc1.toInt ∧ xc1.toInt < 65536) (V_xb : Arv Z h0 xb xk .byte (8 : Int32) [(iu0 xc0), (iu8 xc0), (iu0 xc1), (iu8 xc1), (iu0 xc2), (iu8 xc2), (iu0 xc3), (iu8 xc3)] (.int (0 : Int32))) :
    oCon l Z yy24 jdk_52_method_83_code 2 (some .char) ws ({ frames := 3, cells := 0, slots := 0, locals := 40 } : Room) #[(.ref xb), (.int (1 : Int32))] h0 (Q_rUC_4_1 Z xb xk xfm xc0 xc1 xc2 xc3 h0) := by
  refine oCon.of (plainFor_of_name pn_3) ?_
  intro p e s m below meth c T X hx hby hml hown hnm hret hlk hZ e0
  have hml : c.maxLocals = 2 := hml
  have K : oKp h0 h0 [] [] := oKp.nil _ _
  refine oWk.cast (g' := (mkF m 0 #[rv xb, iv 1] [])) (by first | rfl | (simp [entryFrame, mkF, argsToLocals, Value.category]; done)) ?_
  refine oWk.st (fun _ kt => zI X hx hby d24_0 rfl rfl (zA X hx hby d24_1 rfl rfl rfl kt)) ?_
  have Oh := K.old O0 all0
  obtain ⟨T, L2, X, e0, K, st⟩ := (cs21 hw).pure X hx hZ hown e0 K (A := [(.int (1 : Int32)), (.ref xb)]) rfl (rUCk_4_1 l Z a0 hw [] xb xk xfm xc0 xc1 xc2 xc3 h0 Oh S_SIOOBE_FORMATTER hcat V_xb) (fun _ _ _ q => q) (W := 0) (by decide) hml (Ls := #[rv xb, iv 1]) rfl (rest := []) rfl rfl hby d24_2
  refine oWk.st (fun _ kt => st _ (zA X hx hby d24_5 rfl rfl rfl (zI X hx hby d24_6 rfl rfl kt))) ?_
  obtain ⟨T, L4, X, e0, K, st⟩ := (cs9 hw).pure X hx hZ hown e0 K (A := [(.ref xb), (.int (1 : Int32))]) rfl (rGC_4_1 l Z a0 hw [] xb xk xc0 xc1 xc2 xc3 h0 Oh S__assertionsDisabled S_HI_BYTE_SHIFT S_LO_BYTE_SHIFT hr V_xb) (fun _ _ _ q => q) (W := 0) (by decide) hml (Ls := #[rv xb, iv 1]) rfl (rest := []) rfl rfl hby d24_7
  refine oWk.to (mkF m 10 #[rv xb, iv 1] [(.int xc1)]) (fun _ kt => st _ kt) ?_
  exact oRetN X hx hlk hret (Or.inr (Or.inl rfl)) (show narrow .char (.int xc1) = .int xc1 from congrArg Value.int (oChrU hr)) (hb hby d24_10) (by rw [e0]; exact ⟨rfl, rfl, K⟩) (by decide) (by decide)
def Q_rCAU_4_1 (Z : State) (xa xb : Addr) (xk : ClassId) (xfm : Value) (xz xc0 xc1 xc2 xc3 : Int32) (h0 : Heap) (v : Option Value) (h : Heap) (L : List Loc) : Prop := v = some (.int xc1) ∧ h = h0 ∧ oKp h0 h [] L
theorem rCAU_4_1 (l : Launch) (Z : State) (a0 : Array Value) (hw : oHW a0 Z) (ws : List Jvm.Cond) (xa xb : Addr) (xk : ClassId) (xfm : Value) (xz xc0 xc1 xc2 xc3 : Int32) (h0 : Heap) (O0 : Ext Z.heap h0) (S_COMPACT_STRINGS : Sta Z Z.heap Y0 Y6 "Z" (.int xz)) (hz : ¬ xz = (0 : Int32)) (S__assertionsDisabled : Sta Z Z.heap Y1 Y3 "Z" (.int (1 : Int32))) (S_HI_BYTE_SHIFT : Sta Z Z.heap Y1 "HI_BYTE_SHIFT" "I" (.int (0 : Int32))) (S_LO_BYTE_SHIFT : Sta Z Z.heap Y1 "LO_BYTE_SHIFT" "I" (.int (8 : Int32))) (S_SIOOBE_FORMATTER : Sta Z Z.heap Y2 Y4 Y5 xfm) (hcat : xfm.category = 1) (hr : 0 ≤ xc1.toInt ∧ xc1.toInt < 65536) (E_xa : Exa Z h0 xa Y0) (F_coder_xa : Fld Z h0 xa Y0 "coder" "B" (.int (1 : Int32))) (F_value_xa : Fld Z h0 xa Y0 "value" "[B" (.ref xb)) (V_xb : Arv Z h0 xb xk .byte (8 : Int32) [(iu0 xc0), (iu8 xc0), (iu0 xc1), (iu8 xc1), (iu0 xc2), (iu8 xc2), (iu0 xc3), (iu8 xc3)] (.int (0 : Int32))) :
    oCon l Z yy21 jdk_42_method_56_code 2 (some .char) ws ({ frames := 4, cells := 0, slots := 0, locals := 53 } : Room) #[(.ref xa), (.int (1 : Int32))] h0 (Q_rCAU_4_1 Z xa xb xk xfm xz xc0 xc1 xc2 xc3 h0) := by
  refine oCon.of (plainFor_of_name pn_2) ?_
  intro p e s m below meth c T X hx hby hml hown hnm hret hlk hZ e0
  have hml : c.maxLocals = 2 := hml
  have K : oKp h0 h0 [] [] := oKp.nil _ _
  refine oWk.cast (g' := (mkF m 0 #[rv xa, iv 1] [])) (by first | rfl | (simp [entryFrame, mkF, argsToLocals, Value.category]; done)) ?_
  refine oWk.st (fun _ kt => zA X hx hby d12_0 rfl rfl rfl kt) ?_
  have Oh := K.old O0 all0
  obtain ⟨T, L2, X, e0, K, st⟩ := (cs14 hw).pure X hx hZ hown e0 K (A := [(.ref xa)]) ⟨rfl, _, _, rfl, E_xa⟩ (rIsL1 l Z a0 hw [] xa xz h0 Oh S_COMPACT_STRINGS hz F_coder_xa) (fun _ _ _ q => q) (W := 0) (by decide) hml (Ls := #[rv xa, iv 1]) rfl (rest := []) rfl rfl hby d12_1
  refine oWk.st (fun _ kt => st _ (zF X hx hby d12_4 rfl rfl ((if0 _ _).trans (teq (by decide)).1) (pc' := 16) rfl (zA X hx hby d12_16 rfl rfl rfl kt))) ?_
  obtain ⟨T, X, e0, st⟩ := getF X hx hZ hown (host := "") (Or.inl (oW hw 22 rfl)) Via.refl e0 F_value_xa (g := (mkF m 17 #[rv xa, iv 1] [(.ref xa)])) rfl rfl (hb hby d12_17)
  refine oWk.st (fun _ kt => st _ (zI X hx hby d12_20 rfl rfl kt)) ?_
  obtain ⟨T, L4, X, e0, K, st⟩ := (cs22 hw).pure X hx hZ hown e0 K (A := [(.ref xb), (.int (1 : Int32))]) rfl (rUC_4_1 l Z a0 hw [] xb xk xfm xc0 xc1 xc2 xc3 h0 Oh S__assertionsDisabled S_HI_BYTE_SHIFT S_LO_BYTE_SHIFT S_SIOOBE_FORMATTER hcat hr V_xb) (fun _ _ _ q => q) (W := 0) (by decide) hml (Ls := #[rv xa, iv 1]) rfl (rest := []) rfl rfl hby d12_21
  refine oWk.to (mkF m 24 #[rv xa, iv 1] [(.int xc1)]) (fun _ kt => st _ kt) ?_
  exact oRetN X hx hlk hret (Or.inr (Or.inl rfl)) (show narrow .char (.int xc1) = .int xc1 from congrArg Value.int (oChrU hr)) (hb hby d12_24) (by rw [e0]; exact ⟨rfl, rfl, K⟩) (by decide) (by decide)
def Q_rUCk_4_2 (Z : State) (xb : Addr) (xk : ClassId) (xfm : Value) (xc0 xc1 xc2 xc3 : Int32) (h0 : Heap) (v : Option Value) (h : Heap) (L : List Loc) : Prop := v = none ∧ h = h0 ∧ oKp h0 h [] L
theorem rUCk_4_2 (l : Launch) (Z : State) (a0 : Array Value) (hw : oHW a0 Z) (ws : List Jvm.Cond) (xb : Addr) (xk : ClassId) (xfm : Value) (xc0 xc1 xc2 xc3 : Int32) (h0 : Heap) (O0 : Ext Z.heap h0) (S_SIOOBE_FORMATTER : Sta Z Z.heap Y2 Y4 Y5 xfm) (hcat : xfm.category = 1) (V_xb : Arv Z h0 xb xk .byte (8 : Int32) [(iu0 xc0), (iu8 xc0), (iu0 xc1), (iu8 xc1), (iu0 xc2), (iu8 xc2), (iu0 xc3), (iu8 xc3)] (.int (0 : Int32))) :
    oCon l Z yy23 jdk_52_method_91_code 2 none ws ({ frames := 2, cells := 0, slots := 0, locals := 27 } : Room) #[(.int (2 : Int32)), (.ref xb)] h0 (Q_rUCk_4_2 Z xb xk xfm xc0 xc1 xc2 xc3 h0) := by
  refine oCon.of (plainFor_of_name pn_3) ?_
  intro p e s m below meth c T X hx hby hml hown hnm hret hlk hZ e0
  have hml : c.maxLocals = 2 := hml
  have K : oKp h0 h0 [] [] := oKp.nil _ _
  refine oWk.cast (g' := (mkF m 0 #[iv 2, rv xb] [])) (by first | rfl | (simp [entryFrame, mkF, argsToLocals, Value.category]; done)) ?_
  refine oWk.st (fun _ kt => zI X hx hby d25_0 rfl rfl (zA X hx hby d25_1 rfl rfl rfl kt)) ?_
  have Oh := K.old O0 all0
  obtain ⟨T, L2, X, e0, K, st⟩ := (cs19 hw).pure X hx hZ hown e0 K (A := [(.ref xb)]) rfl (rUL_4 l Z a0 hw [] xb xk xc0 xc1 xc2 xc3 h0 Oh V_xb) (fun _ _ _ q => q) (W := 1) (by decide) hml (Ls := #[iv 2, rv xb]) rfl (rest := [(.int (2 : Int32))]) rfl rfl hby d25_2
  refine oWk.st (fun _ kt => st _ kt) ?_
  obtain ⟨T, L4, X, e0, K, st⟩ := (cs20 hw).pure X hx hZ hown e0 K (A := [(.int (2 : Int32)), (.int (4 : Int32))]) rfl (rCkI l Z a0 hw [] (2 : Int32) (4 : Int32) xfm h0 Oh S_SIOOBE_FORMATTER hcat (by decide) (by decide)) (fun _ _ _ q => q) (W := 0) (by decide) hml (Ls := #[iv 2, rv xb]) rfl (rest := []) rfl rfl hby d25_5
  refine oWk.to (mkF m 8 #[iv 2, rv xb] []) (fun _ kt => st _ kt) ?_
  exact oRetV X hx hlk hret (hb hby d25_8) (by rw [e0]; exact ⟨rfl, rfl, K⟩) (by decide) (by decide)
def Q_rUC_4_2 (Z : State) (xb : Addr) (xk : ClassId) (xfm : Value) (xc0 xc1 xc2 xc3 : Int32) (h0 : Heap) (v : Option Value) (h : Heap) (L : List Loc) : Prop := v = some (.int xc2) ∧ h = h0 ∧ oKp h0 h [] L
theorem rUC_4_2 (l : Launch) (Z : State) (a0 : Array Value) (hw : oHW a0 Z) (ws : List Jvm.Cond) (xb : Addr) (xk : ClassId) (xfm : Value) (xc0 xc1 xc2 xc3 : Int32) (h0 : Heap) (O0 : Ext Z.heap h0) (S__assertionsDisabled : Sta Z Z.heap Y1 Y3 "Z" (.int (1 : Int32))) (S_HI_BYTE_SHIFT : Sta Z Z.heap Y1 "HI_BYTE_SHIFT" "I" (.int (0 : Int32))) (S_LO_BYTE_SHIFT : Sta Z Z.heap Y1 "LO_BYTE_SHIFT" "I" (.int (8 : Int32))) (S_SIOOBE_FORMATTER : Sta Z Z.heap Y2 Y4 Y5 xfm) (hcat : xfm.category = 1) (hr : 0 ≤ xc2.toInt ∧ xc2.toInt < 65536) (V_xb : Arv Z h0 xb xk .byte (8 : Int32) [(iu0 xc0), (iu8 xc0), (iu0 xc1), (iu8 xc1), (iu0 xc2), (iu8 xc2), (iu0 xc3), (iu8 xc3)] (.int (0 : Int32))) :
    oCon l Z yy24 jdk_52_method_83_code 2 (some .char) ws ({ frames := 3, cells := 0, slots := 0, locals := 40 } : Room) #[(.ref xb), (.int (2 : Int32))] h0 (Q_rUC_4_2 Z xb xk xfm xc0 xc1 xc2 xc3 h0) := by
  refine oCon.of (plainFor_of_name pn_3) ?_
  intro p e s m below meth c T X hx hby hml hown hnm hret hlk hZ e0
  have hml : c.maxLocals = 2 := hml
  have K : oKp h0 h0 [] [] := oKp.nil _ _
  refine oWk.cast (g' := (mkF m 0 #[rv xb, iv 2] [])) (by first | rfl | (simp [entryFrame, mkF, argsToLocals, Value.category]; done)) ?_
  refine oWk.st (fun _ kt => zI X hx hby d24_0 rfl rfl (zA X hx hby d24_1 rfl rfl rfl kt)) ?_
  have Oh := K.old O0 all0
  obtain ⟨T, L2, X, e0, K, st⟩ := (cs21 hw).pure X hx hZ hown e0 K (A := [(.int (2 : Int32)), (.ref xb)]) rfl (rUCk_4_2 l Z a0 hw [] xb xk xfm xc0 xc1 xc2 xc3 h0 Oh S_SIOOBE_FORMATTER hcat V_xb) (fun _ _ _ q => q) (W := 0) (by decide) hml (Ls := #[rv xb, iv 2]) rfl (rest := []) rfl rfl hby d24_2
  refine oWk.st (fun _ kt => st _ (zA X hx hby d24_5 rfl rfl rfl (zI X hx hby d24_6 rfl rfl kt))) ?_
  obtain ⟨T, L4, X, e0, K, st⟩ := (cs9 hw).pure X hx hZ hown e0 K (A := [(.ref xb), (.int (2 : Int32))]) rfl (rGC_4_2 l Z a0 hw [] xb xk xc0 xc1 xc2 xc3 h0 Oh S__assertionsDisabled S_HI_BYTE_SHIFT S_LO_BYTE_SHIFT hr V_xb) (fun _ _ _ q => q) (W := 0) (by decide) hml (Ls := #[rv xb, iv 2]) rfl (rest := []) rfl rfl hby d24_7
  refine oWk.to (mkF m 10 #[rv xb, iv 2] [(.int xc2)]) (fun _ kt => st _ kt) ?_
  exact oRetN X hx hlk hret (Or.inr (Or.inl rfl)) (show narrow .char (.int xc2) = .int xc2 from congrArg Value.int (oChrU hr)) (hb hby d24_10) (by rw [e0]; exact ⟨rfl, rfl, K⟩) (by decide) (by decide)
def Q_rCAU_4_2 (Z : State) (xa xb : Addr) (xk : ClassId) (xfm : Value) (xz xc0 xc1 xc2 xc3 : Int32) (h0 : Heap) (v : Option Value) (h : Heap) (L : List Loc) : Prop := v = some (.int xc2) ∧ h = h0 ∧ oKp h0 h [] L
theorem rCAU_4_2 (l : Launch) (Z : State) (a0 : Array Value) (hw : oHW a0 Z) (ws : List Jvm.Cond) (xa xb : Addr) (xk : ClassId) (xfm : Value) (xz xc0 xc1 xc2 xc3 : Int32) (h0 : Heap) (O0 : Ext Z.heap h0) (S_COMPACT_STRINGS : Sta Z Z.heap Y0 Y6 "Z" (.int xz)) (hz : ¬ xz = (0 : Int32)) (S__assertionsDisabled : Sta Z Z.heap Y1 Y3 "Z" (.int (1 : Int32))) (S_HI_BYTE_SHIFT : Sta Z Z.heap Y1 "HI_BYTE_SHIFT" "I" (.int (0 : Int32))) (S_LO_BYTE_SHIFT : Sta Z Z.heap Y1 "LO_BYTE_SHIFT" "I" (.int (8 : Int32))) (S_SIOOBE_FORMATTER : Sta Z Z.heap Y2 Y4 Y5 xfm) (hcat : xfm.category = 1) (hr : 0 ≤ xc2.toInt ∧ xc2.toInt < 65536) (E_xa : Exa Z h0 xa Y0) (F_coder_xa : Fld Z h0 xa Y0 "coder" "B" (.int (1 : Int32))) (F_value_xa : Fld Z h0 xa Y0 "value" "[B" (.ref xb)) (V_xb : Arv Z h0 xb xk .byte (8 : Int32) [(iu0 xc0), (iu8 xc0), (iu0 xc1), (iu8 xc1), (iu0 xc2), (iu8 xc2), (iu0 xc3), (iu8 xc3)] (.int (0 : Int32))) :
    oCon l Z yy21 jdk_42_method_56_code 2 (some .char) ws ({ frames := 4, cells := 0, slots := 0, locals := 53 } : Room) #[(.ref xa), (.int (2 : Int32))] h0 (Q_rCAU_4_2 Z xa xb xk xfm xz xc0 xc1 xc2 xc3 h0) := by
  refine oCon.of (plainFor_of_name pn_2) ?_
  intro p e s m below meth c T X hx hby hml hown hnm hret hlk hZ e0
  have hml : c.maxLocals = 2 := hml
  have K : oKp h0 h0 [] [] := oKp.nil _ _
  refine oWk.cast (g' := (mkF m 0 #[rv xa, iv 2] [])) (by first | rfl | (simp [entryFrame, mkF, argsToLocals, Value.category]; done)) ?_
  refine oWk.st (fun _ kt => zA X hx hby d12_0 rfl rfl rfl kt) ?_
  have Oh := K.old O0 all0
  obtain ⟨T, L2, X, e0, K, st⟩ := (cs14 hw).pure X hx hZ hown e0 K (A := [(.ref xa)]) ⟨rfl, _, _, rfl, E_xa⟩ (rIsL1 l Z a0 hw [] xa xz h0 Oh S_COMPACT_STRINGS hz F_coder_xa) (fun _ _ _ q => q) (W := 0) (by decide) hml (Ls := #[rv xa, iv 2]) rfl (rest := []) rfl rfl hby d12_1
  refine oWk.st (fun _ kt => st _ (zF X hx hby d12_4 rfl rfl ((if0 _ _).trans (teq (by decide)).1) (pc' := 16) rfl (zA X hx hby d12_16 rfl rfl rfl kt))) ?_
  obtain ⟨T, X, e0, st⟩ := getF X hx hZ hown (host := "") (Or.inl (oW hw 22 rfl)) Via.refl e0 F_value_xa (g := (mkF m 17 #[rv xa, iv 2] [(.ref xa)])) rfl rfl (hb hby d12_17)
  refine oWk.st (fun _ kt => st _ (zI X hx hby d12_20 rfl rfl kt)) ?_
  obtain ⟨T, L4, X, e0, K, st⟩ := (cs22 hw).pure X hx hZ hown e0 K (A := [(.ref xb), (.int (2 : Int32))]) rfl (rUC_4_2 l Z a0 hw [] xb xk xfm xc0 xc1 xc2 xc3 h0 Oh S__assertionsDisabled S_HI_BYTE_SHIFT S_LO_BYTE_SHIFT S_SIOOBE_FORMATTER hcat hr V_xb) (fun _ _ _ q => q) (W := 0) (by decide) hml (Ls := #[rv xa, iv 2]) rfl (rest := []) rfl rfl hby d12_21
  refine oWk.to (mkF m 24 #[rv xa, iv 2] [(.int xc2)]) (fun _ kt => st _ kt) ?_
  exact oRetN X hx hlk hret (Or.inr (Or.inl rfl)) (show narrow .char (.int xc2) = .int xc2 from congrArg Value.int (oChrU hr)) (hb hby d12_24) (by rw [e0]; exact ⟨rfl, rfl, K⟩) (by decide) (by decide)
def Q_rUCk_4_3 (Z : State) (xb : Addr) (xk : ClassId) (xfm : Value) (xc0 xc1 xc2 xc3 : Int32) (h0 : Heap) (v : Option Value) (h : Heap) (L : List Loc) : Prop := v = none ∧ h = h0 ∧ oKp h0 h [] L
theorem rUCk_4_3 (l : Launch) (Z : State) (a0 : Array Value) (hw : oHW a0 Z) (ws : List Jvm.Cond) (xb : Addr) (xk : ClassId) (xfm : Value) (xc0 xc1 xc2 xc3 : Int32) (h0 : Heap) (O0 : Ext Z.heap h0) (S_SIOOBE_FORMATTER : Sta Z Z.heap Y2 Y4 Y5 xfm) (hcat : xfm.category = 1) (V_xb : Arv Z h0 xb xk .byte (8 : Int32) [(iu0 xc0), (iu8 xc0), (iu0 xc1), (iu8 xc1), (iu0 xc2), (iu8 xc2), (iu0 xc3), (iu8 xc3)] (.int (0 : Int32))) :
    oCon l Z yy23 jdk_52_method_91_code 2 none ws ({ frames := 2, cells := 0, slots := 0, locals := 27 } : Room) #[(.int (3 : Int32)), (.ref xb)] h0 (Q_rUCk_4_3 Z xb xk xfm xc0 xc1 xc2 xc3 h0) := by
  refine oCon.of (plainFor_of_name pn_3) ?_
  intro p e s m below meth c T X hx hby hml hown hnm hret hlk hZ e0
  have hml : c.maxLocals = 2 := hml
  have K : oKp h0 h0 [] [] := oKp.nil _ _
  refine oWk.cast (g' := (mkF m 0 #[iv 3, rv xb] [])) (by first | rfl | (simp [entryFrame, mkF, argsToLocals, Value.category]; done)) ?_
  refine oWk.st (fun _ kt => zI X hx hby d25_0 rfl rfl (zA X hx hby d25_1 rfl rfl rfl kt)) ?_
  have Oh := K.old O0 all0
  obtain ⟨T, L2, X, e0, K, st⟩ := (cs19 hw).pure X hx hZ hown e0 K (A := [(.ref xb)]) rfl (rUL_4 l Z a0 hw [] xb xk xc0 xc1 xc2 xc3 h0 Oh V_xb) (fun _ _ _ q => q) (W := 1) (by decide) hml (Ls := #[iv 3, rv xb]) rfl (rest := [(.int (3 : Int32))]) rfl rfl hby d25_2
  refine oWk.st (fun _ kt => st _ kt) ?_
  obtain ⟨T, L4, X, e0, K, st⟩ := (cs20 hw).pure X hx hZ hown e0 K (A := [(.int (3 : Int32)), (.int (4 : Int32))]) rfl (rCkI l Z a0 hw [] (3 : Int32) (4 : Int32) xfm h0 Oh S_SIOOBE_FORMATTER hcat (by decide) (by decide)) (fun _ _ _ q => q) (W := 0) (by decide) hml (Ls := #[iv 3, rv xb]) rfl (rest := []) rfl rfl hby d25_5
  refine oWk.to (mkF m 8 #[iv 3, rv xb] []) (fun _ kt => st _ kt) ?_
  exact oRetV X hx hlk hret (hb hby d25_8) (by rw [e0]; exact ⟨rfl, rfl, K⟩) (by decide) (by decide)
def Q_rUC_4_3 (Z : State) (xb : Addr) (xk : ClassId) (xfm : Value) (xc0 xc1 xc2 xc3 : Int32) (h0 : Heap) (v : Option Value) (h : Heap) (L : List Loc) : Prop := v = some (.int xc3) ∧ h = h0 ∧ oKp h0 h [] L
theorem rUC_4_3 (l : Launch) (Z : State) (a0 : Array Value) (hw : oHW a0 Z) (ws : List Jvm.Cond) (xb : Addr) (xk : ClassId) (xfm : Value) (xc0 xc1 xc2 xc3 : Int32) (h0 : Heap) (O0 : Ext Z.heap h0) (S__assertionsDisabled : Sta Z Z.heap Y1 Y3 "Z" (.int (1 : Int32))) (S_HI_BYTE_SHIFT : Sta Z Z.heap Y1 "HI_BYTE_SHIFT" "I" (.int (0 : Int32))) (S_LO_BYTE_SHIFT : Sta Z Z.heap Y1 "LO_BYTE_SHIFT" "I" (.int (8 : Int32))) (S_SIOOBE_FORMATTER : Sta Z Z.heap Y2 Y4 Y5 xfm) (hcat : xfm.category = 1) (hr : 0 ≤ xc3.toInt ∧ xc3.toInt < 65536) (V_xb : Arv Z h0 xb xk .byte (8 : Int32) [(iu0 xc0), (iu8 xc0), (iu0 xc1), (iu8 xc1), (iu0 xc2), (iu8 xc2), (iu0 xc3), (iu8 xc3)] (.int (0 : Int32))) :
    oCon l Z yy24 jdk_52_method_83_code 2 (some .char) ws ({ frames := 3, cells := 0, slots := 0, locals := 40 } : Room) #[(.ref xb), (.int (3 : Int32))] h0 (Q_rUC_4_3 Z xb xk xfm xc0 xc1 xc2 xc3 h0) := by
  refine oCon.of (plainFor_of_name pn_3) ?_
  intro p e s m below meth c T X hx hby hml hown hnm hret hlk hZ e0
  have hml : c.maxLocals = 2 := hml
  have K : oKp h0 h0 [] [] := oKp.nil _ _
  refine oWk.cast (g' := (mkF m 0 #[rv xb, iv 3] [])) (by first | rfl | (simp [entryFrame, mkF, argsToLocals, Value.category]; done)) ?_
  refine oWk.st (fun _ kt => zI X hx hby d24_0 rfl rfl (zA X hx hby d24_1 rfl rfl rfl kt)) ?_
  have Oh := K.old O0 all0
  obtain ⟨T, L2, X, e0, K, st⟩ := (cs21 hw).pure X hx hZ hown e0 K (A := [(.int (3 : Int32)), (.ref xb)]) rfl (rUCk_4_3 l Z a0 hw [] xb xk xfm xc0 xc1 xc2 xc3 h0 Oh S_SIOOBE_FORMATTER hcat V_xb) (fun _ _ _ q => q) (W := 0) (by decide) hml (Ls := #[rv xb, iv 3]) rfl (rest := []) rfl rfl hby d24_2
  refine oWk.st (fun _ kt => st _ (zA X hx hby d24_5 rfl rfl rfl (zI X hx hby d24_6 rfl rfl kt))) ?_
  obtain ⟨T, L4, X, e0, K, st⟩ := (cs9 hw).pure X hx hZ hown e0 K (A := [(.ref xb), (.int (3 : Int32))]) rfl (rGC_4_3 l Z a0 hw [] xb xk xc0 xc1 xc2 xc3 h0 Oh S__assertionsDisabled S_HI_BYTE_SHIFT S_LO_BYTE_SHIFT hr V_xb) (fun _ _ _ q => q) (W := 0) (by decide) hml (Ls := #[rv xb, iv 3]) rfl (rest := []) rfl rfl hby d24_7
  refine oWk.to (mkF m 10 #[rv xb, iv 3] [(.int xc3)]) (fun _ kt => st _ kt) ?_
  exact oRetN X hx hlk hret (Or.inr (Or.inl rfl)) (show narrow .char (.int xc3) = .int xc3 from congrArg Value.int (oChrU hr)) (hb hby d24_10) (by rw [e0]; exact ⟨rfl, rfl, K⟩) (by decide) (by decide)
def Q_rCAU_4_3 (Z : State) (xa xb : Addr) (xk : ClassId) (xfm : Value) (xz xc0 xc1 xc2 xc3 : Int32) (h0 : Heap) (v : Option Value) (h : Heap) (L : List Loc) : Prop := v = some (.int xc3) ∧ h = h0 ∧ oKp h0 h [] L
theorem rCAU_4_3 (l : Launch) (Z : State) (a0 : Array Value) (hw : oHW a0 Z) (ws : List Jvm.Cond) (xa xb : Addr) (xk : ClassId) (xfm : Value) (xz xc0 xc1 xc2 xc3 : Int32) (h0 : Heap) (O0 : Ext Z.heap h0) (S_COMPACT_STRINGS : Sta Z Z.heap Y0 Y6 "Z" (.int xz)) (hz : ¬ xz = (0 : Int32)) (S__assertionsDisabled : Sta Z Z.heap Y1 Y3 "Z" (.int (1 : Int32))) (S_HI_BYTE_SHIFT : Sta Z Z.heap Y1 "HI_BYTE_SHIFT" "I" (.int (0 : Int32))) (S_LO_BYTE_SHIFT : Sta Z Z.heap Y1 "LO_BYTE_SHIFT" "I" (.int (8 : Int32))) (S_SIOOBE_FORMATTER : Sta Z Z.heap Y2 Y4 Y5 xfm) (hcat : xfm.category = 1) (hr : 0 ≤ xc3.toInt ∧ xc3.toInt < 65536) (E_xa : Exa Z h0 xa Y0) (F_coder_xa : Fld Z h0 xa Y0 "coder" "B" (.int (1 : Int32))) (F_value_xa : Fld Z h0 xa Y0 "value" "[B" (.ref xb)) (V_xb : Arv Z h0 xb xk .byte (8 : Int32) [(iu0 xc0), (iu8 xc0), (iu0 xc1), (iu8 xc1), (iu0 xc2), (iu8 xc2), (iu0 xc3), (iu8 xc3)] (.int (0 : Int32))) :
    oCon l Z yy21 jdk_42_method_56_code 2 (some .char) ws ({ frames := 4, cells := 0, slots := 0, locals := 53 } : Room) #[(.ref xa), (.int (3 : Int32))] h0 (Q_rCAU_4_3 Z xa xb xk xfm xz xc0 xc1 xc2 xc3 h0) := by
  refine oCon.of (plainFor_of_name pn_2) ?_
  intro p e s m below meth c T X hx hby hml hown hnm hret hlk hZ e0
  have hml : c.maxLocals = 2 := hml
  have K : oKp h0 h0 [] [] := oKp.nil _ _
  refine oWk.cast (g' := (mkF m 0 #[rv xa, iv 3] [])) (by first | rfl | (simp [entryFrame, mkF, argsToLocals, Value.category]; done)) ?_
  refine oWk.st (fun _ kt => zA X hx hby d12_0 rfl rfl rfl kt) ?_
  have Oh := K.old O0 all0
  obtain ⟨T, L2, X, e0, K, st⟩ := (cs14 hw).pure X hx hZ hown e0 K (A := [(.ref xa)]) ⟨rfl, _, _, rfl, E_xa⟩ (rIsL1 l Z a0 hw [] xa xz h0 Oh S_COMPACT_STRINGS hz F_coder_xa) (fun _ _ _ q => q) (W := 0) (by decide) hml (Ls := #[rv xa, iv 3]) rfl (rest := []) rfl rfl hby d12_1
  refine oWk.st (fun _ kt => st _ (zF X hx hby d12_4 rfl rfl ((if0 _ _).trans (teq (by decide)).1) (pc' := 16) rfl (zA X hx hby d12_16 rfl rfl rfl kt))) ?_
  obtain ⟨T, X, e0, st⟩ := getF X hx hZ hown (host := "") (Or.inl (oW hw 22 rfl)) Via.refl e0 F_value_xa (g := (mkF m 17 #[rv xa, iv 3] [(.ref xa)])) rfl rfl (hb hby d12_17)
  refine oWk.st (fun _ kt => st _ (zI X hx hby d12_20 rfl rfl kt)) ?_
  obtain ⟨T, L4, X, e0, K, st⟩ := (cs22 hw).pure X hx hZ hown e0 K (A := [(.ref xb), (.int (3 : Int32))]) rfl (rUC_4_3 l Z a0 hw [] xb xk xfm xc0 xc1 xc2 xc3 h0 Oh S__assertionsDisabled S_HI_BYTE_SHIFT S_LO_BYTE_SHIFT S_SIOOBE_FORMATTER hcat hr V_xb) (fun _ _ _ q => q) (W := 0) (by decide) hml (Ls := #[rv xa, iv 3]) rfl (rest := []) rfl rfl hby d12_21
  refine oWk.to (mkF m 24 #[rv xa, iv 3] [(.int xc3)]) (fun _ kt => st _ kt) ?_
  exact oRetN X hx hlk hret (Or.inr (Or.inl rfl)) (show narrow .char (.int xc3) = .int xc3 from congrArg Value.int (oChrU hr)) (hb hby d12_24) (by rw [e0]; exact ⟨rfl, rfl, K⟩) (by decide) (by decide)
def Q_rSSU_4 (Z : State) (xa xb : Addr) (xk : ClassId) (xfm : Value) (xz xc0 xc1 xc2 xc3 : Int32) (h0 : Heap) (v : Option Value) (h : Heap) (L : List Loc) : Prop := v = some (.int (oBi (¬ xc3 = (46 : Int32) ∧ ¬ xc3 = (32 : Int32) ∧ oPl xc0 ∧ oPl xc1 ∧ oPl xc2 ∧ oPl xc3))) ∧ h = h0 ∧ oKp h0 h [] L
theorem rSSU_4 (l : Launch) (Z : State) (a0 : Array Value) (hw : oHW a0 Z) (ws : List Jvm.Cond) (xa xb : Addr) (xk : ClassId) (xfm : Value) (xz xc0 xc1 xc2 xc3 : Int32) (h0 : Heap) (O0 : Ext Z.heap h0) (S_COMPACT_STRINGS : Sta Z Z.heap Y0 Y6 "Z" (.int xz)) (hz : ¬ xz = (0 : Int32)) (S__assertionsDisabled : Sta Z Z.heap Y1 Y3 "Z" (.int (1 : Int32))) (S_HI_BYTE_SHIFT : Sta Z Z.heap Y1 "HI_BYTE_SHIFT" "I" (.int (0 : Int32))) (S_LO_BYTE_SHIFT : Sta Z Z.heap Y1 "LO_BYTE_SHIFT" "I" (.int (8 : Int32))) (S_SIOOBE_FORMATTER : Sta Z Z.heap Y2 Y4 Y5 xfm) (hcat : xfm.category = 1) (E_xa : Exa Z h0 xa Y0) (F_coder_xa : Fld Z h0 xa Y0 "coder" "B" (.int (1 : Int32))) (F_value_xa : Fld Z h0 xa Y0 "value" "[B" (.ref xb)) (V_xb : Arv Z h0 xb xk .byte (8 : Int32) [(iu0 xc0), (iu8 xc0), (iu0 xc1), (iu8 xc1), (iu0 xc2), (iu8 xc2), (iu0 xc3), (iu8 xc3)] (.int (0 : Int32))) (hr0 : 0 ≤ xc0.toInt ∧ xc0.toInt < 65536) (hr1 : 0 ≤ xc1.toInt ∧ xc1.toInt < 65536) (hr2 : 0 ≤ xc2.toInt ∧ xc2.toInt < 65536) (hr3 : 0 ≤ xc3.toInt ∧ xc3.toInt < 65536) :
    oCon l Z yy14 prog_11_method_4_code 4 (some .boolean) ws ({ frames := 5, cells := 0, slots := 0, locals := 66 } : Room) #[(.ref xa)] h0 (Q_rSSU_4 Z xa xb xk xfm xz xc0 xc1 xc2 xc3 h0) := by
  refine oCon.of (plainFor_of_name pn_4) ?_
  intro p e s m below meth c T X hx hby hml hown hnm hret hlk hZ e0
  have hml : c.maxLocals = 4 := hml
  have K : oKp h0 h0 [] [] := oKp.nil _ _
  refine oWk.cast (g' := (mkF m 0 #[rv xa, uu, uu, uu] [])) (by first | rfl | (simp [entryFrame, mkF, argsToLocals, Value.category]; done)) ?_
  refine oWk.st (fun _ kt => zA X hx hby d4_0 rfl rfl rfl kt) ?_
  have Oh := K.old O0 all0
  obtain ⟨T, L2, X, e0, K, st⟩ := (cs10 hw).pure X hx hZ hown e0 K (A := [(.ref xa)]) ⟨rfl, _, _, rfl, E_xa⟩ (rEmU_4 l Z a0 hw [] xa xb xk xc0 xc1 xc2 xc3 h0 Oh F_value_xa V_xb) (fun _ _ _ q => q) (W := 0) (by decide) hml (Ls := #[rv xa, uu, uu, uu]) rfl (rest := []) rfl rfl hby d4_1
  refine oWk.st (fun _ kt => st _ (zF X hx hby d4_4 rfl rfl ((if0 _ _).trans (teq (by decide)).1) (pc' := 9) rfl (zA X hx hby d4_9 rfl rfl rfl (zA X hx hby d4_10 rfl rfl rfl kt)))) ?_
  obtain ⟨T, L4, X, e0, K, st⟩ := (cs16 hw).pure X hx hZ hown e0 K (A := [(.ref xa)]) ⟨rfl, _, _, rfl, E_xa⟩ (rLnU_4 l Z a0 hw [] xa xb xk xz xc0 xc1 xc2 xc3 h0 Oh S_COMPACT_STRINGS hz E_xa F_coder_xa F_value_xa V_xb) (fun _ _ _ q => q) (W := 1) (by decide) hml (Ls := #[rv xa, uu, uu, uu]) rfl (rest := [(.ref xa)]) rfl rfl hby d4_11
  refine oWk.st (fun _ kt => st _ (zK X hx hby d4_14 rfl (XS.isub X.here hx rfl (hb hby d4_15) rfl kt))) ?_
  obtain ⟨T, L6, X, e0, K, st⟩ := (cs17 hw).pure X hx hZ hown e0 K (A := [(.ref xa), (.int (3 : Int32))]) ⟨rfl, _, _, rfl, E_xa⟩ (rCAU_4_3 l Z a0 hw [] xa xb xk xfm xz xc0 xc1 xc2 xc3 h0 Oh S_COMPACT_STRINGS hz S__assertionsDisabled S_HI_BYTE_SHIFT S_LO_BYTE_SHIFT S_SIOOBE_FORMATTER hcat hr3 E_xa F_coder_xa F_value_xa V_xb) (fun _ _ _ q => q) (W := 0) (by decide) hml (Ls := #[rv xa, uu, uu, uu]) rfl (rest := []) rfl rfl hby d4_16
  refine oWk.to (mkF m 23 #[rv xa, iv xc3, uu, uu] [(.int xc3), (.int 46)]) (fun _ kt => st _ (zSn X hx hby d4_19 rfl rfl (l' := #[rv xa, iv xc3, uu, uu]) rfl (zL X hx hby d4_20 rfl (zI X hx hby d4_22 rfl rfl kt)))) ?_
  by_cases hq46 : (46 : Int32) = xc3
  · refine oWk.to (mkF m 32 #[rv xa, iv xc3, uu, uu] []) (fun _ kt => zY X hx hby d4_23 rfl rfl (teq hq46).1 (pc' := 32) rfl kt) ?_
    refine oWk.to (mkF m 33 #[rv xa, iv xc3, uu, uu] [(.int 0)]) (fun _ kt => zK X hx hby d4_32 rfl kt) ?_
    exact oRetZ X hx hlk hret (hb hby d4_33) (Or.inl rfl) (by rw [e0]; exact ⟨(by rw [oBi_f (fun q => q.1 hq46.symm)]), rfl, K⟩) (by decide) (by decide)
  · refine oWk.to (mkF m 26 #[rv xa, iv xc3, uu, uu] []) (fun _ kt => zN X hx hby d4_23 rfl rfl (feq hq46).1 kt) ?_
    refine oWk.to (mkF m 29 #[rv xa, iv xc3, uu, uu] [(.int xc3), (.int 32)]) (fun _ kt => zL X hx hby d4_26 rfl (zI X hx hby d4_28 rfl rfl kt)) ?_
    by_cases hq32 : (32 : Int32) = xc3
    · refine oWk.to (mkF m 32 #[rv xa, iv xc3, uu, uu] []) (fun _ kt => zN X hx hby d4_29 rfl rfl (teq hq32).2 kt) ?_
      refine oWk.to (mkF m 33 #[rv xa, iv xc3, uu, uu] [(.int 0)]) (fun _ kt => zK X hx hby d4_32 rfl kt) ?_
      exact oRetZ X hx hlk hret (hb hby d4_33) (Or.inl rfl) (by rw [e0]; exact ⟨(by rw [oBi_f (fun q => q.2.1 hq32.symm)]), rfl, K⟩) (by decide) (by decide)
    · refine oWk.to (mkF m 34 #[rv xa, iv xc3, uu, uu] []) (fun _ kt => zY X hx hby d4_29 rfl rfl (feq hq32).2 (pc' := 34) rfl kt) ?_
      refine oWk.st (fun _ kt => zK X hx hby d4_34 rfl (zSn X hx hby d4_35 rfl rfl (l' := #[rv xa, iv xc3, iv 0, uu]) rfl (zI X hx hby d4_36 rfl rfl (zA X hx hby d4_37 rfl rfl rfl kt)))) ?_
      obtain ⟨T, L8, X, e0, K, st⟩ := (cs16 hw).pure X hx hZ hown e0 K (A := [(.ref xa)]) ⟨rfl, _, _, rfl, E_xa⟩ (rLnU_4 l Z a0 hw [] xa xb xk xz xc0 xc1 xc2 xc3 h0 Oh S_COMPACT_STRINGS hz E_xa F_coder_xa F_value_xa V_xb) (fun _ _ _ q => q) (W := 1) (by decide) hml (Ls := #[rv xa, iv xc3, iv 0, uu]) rfl (rest := [(.int (0 : Int32))]) rfl rfl hby d4_38
      refine oWk.st (fun _ kt => st _ (zN X hx hby d4_41 rfl rfl (tlt (by decide)).2.1 (zA X hx hby d4_44 rfl rfl rfl (zI X hx hby d4_45 rfl rfl kt)))) ?_
      obtain ⟨T, L10, X, e0, K, st⟩ := (cs17 hw).pure X hx hZ hown e0 K (A := [(.ref xa), (.int (0 : Int32))]) ⟨rfl, _, _, rfl, E_xa⟩ (rCAU_4_0 l Z a0 hw [] xa xb xk xfm xz xc0 xc1 xc2 xc3 h0 Oh S_COMPACT_STRINGS hz S__assertionsDisabled S_HI_BYTE_SHIFT S_LO_BYTE_SHIFT S_SIOOBE_FORMATTER hcat hr0 E_xa F_coder_xa F_value_xa V_xb) (fun _ _ _ q => q) (W := 0) (by decide) hml (Ls := #[rv xa, iv xc3, iv 0, uu]) rfl (rest := []) rfl rfl hby d4_46
      refine oWk.to (mkF m 53 #[rv xa, iv xc3, iv 0, iv xc0] [(.int xc0), (.int 47)]) (fun _ kt => st _ (zSn X hx hby d4_49 rfl rfl (l' := #[rv xa, iv xc3, iv 0, iv xc0]) rfl (zL X hx hby d4_50 rfl (zI X hx hby d4_52 rfl rfl kt)))) ?_
      by_cases h47_0 : (47 : Int32) = xc0
      · refine oWk.to (mkF m 75 #[rv xa, iv xc3, iv 0, iv xc0] []) (fun _ kt => zY X hx hby d4_53 rfl rfl (teq h47_0).1 (pc' := 75) rfl kt) ?_
        refine oWk.to (mkF m 76 #[rv xa, iv xc3, iv 0, iv xc0] [(.int 0)]) (fun _ kt => zK X hx hby d4_75 rfl kt) ?_
        exact oRetZ X hx hlk hret (hb hby d4_76) (Or.inl rfl) (by rw [e0]; exact ⟨(by rw [oBi_f (fun q => q.2.2.1.1 h47_0.symm)]), rfl, K⟩) (by decide) (by decide)
      · refine oWk.to (mkF m 56 #[rv xa, iv xc3, iv 0, iv xc0] []) (fun _ kt => zN X hx hby d4_53 rfl rfl (feq h47_0).1 kt) ?_
        refine oWk.to (mkF m 59 #[rv xa, iv xc3, iv 0, iv xc0] [(.int xc0), (.int 92)]) (fun _ kt => zL X hx hby d4_56 rfl (zI X hx hby d4_58 rfl rfl kt)) ?_
        by_cases h92_0 : (92 : Int32) = xc0
        · refine oWk.to (mkF m 75 #[rv xa, iv xc3, iv 0, iv xc0] []) (fun _ kt => zY X hx hby d4_59 rfl rfl (teq h92_0).1 (pc' := 75) rfl kt) ?_
          refine oWk.to (mkF m 76 #[rv xa, iv xc3, iv 0, iv xc0] [(.int 0)]) (fun _ kt => zK X hx hby d4_75 rfl kt) ?_
          exact oRetZ X hx hlk hret (hb hby d4_76) (Or.inl rfl) (by rw [e0]; exact ⟨(by rw [oBi_f (fun q => q.2.2.1.2.1 h92_0.symm)]), rfl, K⟩) (by decide) (by decide)
        · refine oWk.to (mkF m 62 #[rv xa, iv xc3, iv 0, iv xc0] []) (fun _ kt => zN X hx hby d4_59 rfl rfl (feq h92_0).1 kt) ?_
          refine oWk.to (mkF m 65 #[rv xa, iv xc3, iv 0, iv xc0] [(.int xc0), (.int 58)]) (fun _ kt => zL X hx hby d4_62 rfl (zI X hx hby d4_64 rfl rfl kt)) ?_
          by_cases h58_0 : (58 : Int32) = xc0
          · refine oWk.to (mkF m 75 #[rv xa, iv xc3, iv 0, iv xc0] []) (fun _ kt => zY X hx hby d4_65 rfl rfl (teq h58_0).1 (pc' := 75) rfl kt) ?_
            refine oWk.to (mkF m 76 #[rv xa, iv xc3, iv 0, iv xc0] [(.int 0)]) (fun _ kt => zK X hx hby d4_75 rfl kt) ?_
            exact oRetZ X hx hlk hret (hb hby d4_76) (Or.inl rfl) (by rw [e0]; exact ⟨(by rw [oBi_f (fun q => q.2.2.1.2.2.1 h58_0.symm)]), rfl, K⟩) (by decide) (by decide)
          · refine oWk.to (mkF m 68 #[rv xa, iv xc3, iv 0, iv xc0] []) (fun _ kt => zN X hx hby d4_65 rfl rfl (feq h58_0).1 kt) ?_
            refine oWk.st (fun _ kt => zI X hx hby d4_68 rfl rfl kt) ?_
            obtain ⟨T, L12, X, e0, K, st⟩ := (cs18 hw).pure X hx hZ hown e0 K (A := [(.int xc0)]) rfl (rIso l Z a0 hw [] xc0 h0 Oh hr0) (fun _ _ _ q => q) (W := 0) (by decide) hml (Ls := #[rv xa, iv xc3, iv 0, iv xc0]) rfl (rest := []) rfl rfl hby d4_69
            refine oWk.to (mkF m 72 #[rv xa, iv xc3, iv 0, iv xc0] [(.int (oBi (oIso xc0)))]) (fun _ kt => st _ kt) ?_
            by_cases hio_0 : oIso xc0
            · refine oWk.to (mkF m 75 #[rv xa, iv xc3, iv 0, iv xc0] []) (fun _ kt => zH X hx hby d4_72 rfl rfl ((if0 _ _).trans (feq (oBi_ne hio_0)).1) kt) ?_
              refine oWk.to (mkF m 76 #[rv xa, iv xc3, iv 0, iv xc0] [(.int 0)]) (fun _ kt => zK X hx hby d4_75 rfl kt) ?_
              exact oRetZ X hx hlk hret (hb hby d4_76) (Or.inl rfl) (by rw [e0]; exact ⟨(by rw [oBi_f (fun q => q.2.2.1.2.2.2 hio_0)]), rfl, K⟩) (by decide) (by decide)
            · refine oWk.to (mkF m 77 #[rv xa, iv xc3, iv 0, iv xc0] []) (fun _ kt => zF X hx hby d4_72 rfl rfl ((if0 _ _).trans (teq (oBi_f hio_0)).1) (pc' := 77) rfl kt) ?_
              refine oWk.st (fun _ kt => zC X hx hby d4_77 rfl rfl (l' := #[rv xa, iv xc3, iv ((0 : Int32) + (1 : Int32)), iv xc0]) rfl (zG X hx hby d4_80 rfl (pc' := 36) rfl (zI X hx hby d4_36 rfl rfl (zA X hx hby d4_37 rfl rfl rfl kt)))) ?_
              obtain ⟨T, L14, X, e0, K, st⟩ := (cs16 hw).pure X hx hZ hown e0 K (A := [(.ref xa)]) ⟨rfl, _, _, rfl, E_xa⟩ (rLnU_4 l Z a0 hw [] xa xb xk xz xc0 xc1 xc2 xc3 h0 Oh S_COMPACT_STRINGS hz E_xa F_coder_xa F_value_xa V_xb) (fun _ _ _ q => q) (W := 1) (by decide) hml (Ls := #[rv xa, iv xc3, iv 1, iv xc0]) rfl (rest := [(.int (1 : Int32))]) rfl rfl hby d4_38
              refine oWk.st (fun _ kt => st _ (zN X hx hby d4_41 rfl rfl (tlt (by decide)).2.1 (zA X hx hby d4_44 rfl rfl rfl (zI X hx hby d4_45 rfl rfl kt)))) ?_
              obtain ⟨T, L16, X, e0, K, st⟩ := (cs17 hw).pure X hx hZ hown e0 K (A := [(.ref xa), (.int (1 : Int32))]) ⟨rfl, _, _, rfl, E_xa⟩ (rCAU_4_1 l Z a0 hw [] xa xb xk xfm xz xc0 xc1 xc2 xc3 h0 Oh S_COMPACT_STRINGS hz S__assertionsDisabled S_HI_BYTE_SHIFT S_LO_BYTE_SHIFT S_SIOOBE_FORMATTER hcat hr1 E_xa F_coder_xa F_value_xa V_xb) (fun _ _ _ q => q) (W := 0) (by decide) hml (Ls := #[rv xa, iv xc3, iv 1, iv xc0]) rfl (rest := []) rfl rfl hby d4_46
              refine oWk.to (mkF m 53 #[rv xa, iv xc3, iv 1, iv xc1] [(.int xc1), (.int 47)]) (fun _ kt => st _ (zSn X hx hby d4_49 rfl rfl (l' := #[rv xa, iv xc3, iv 1, iv xc1]) rfl (zL X hx hby d4_50 rfl (zI X hx hby d4_52 rfl rfl kt)))) ?_
              by_cases h47_1 : (47 : Int32) = xc1
              · refine oWk.to (mkF m 75 #[rv xa, iv xc3, iv 1, iv xc1] []) (fun _ kt => zY X hx hby d4_53 rfl rfl (teq h47_1).1 (pc' := 75) rfl kt) ?_
                refine oWk.to (mkF m 76 #[rv xa, iv xc3, iv 1, iv xc1] [(.int 0)]) (fun _ kt => zK X hx hby d4_75 rfl kt) ?_
                exact oRetZ X hx hlk hret (hb hby d4_76) (Or.inl rfl) (by rw [e0]; exact ⟨(by rw [oBi_f (fun q => q.2.2.2.1.1 h47_1.symm)]), rfl, K⟩) (by decide) (by decide)
              · refine oWk.to (mkF m 56 #[rv xa, iv xc3, iv 1, iv xc1] []) (fun _ kt => zN X hx hby d4_53 rfl rfl (feq h47_1).1 kt) ?_
                refine oWk.to (mkF m 59 #[rv xa, iv xc3, iv 1, iv xc1] [(.int xc1), (.int 92)]) (fun _ kt => zL X hx hby d4_56 rfl (zI X hx hby d4_58 rfl rfl kt)) ?_
                by_cases h92_1 : (92 : Int32) = xc1
                · refine oWk.to (mkF m 75 #[rv xa, iv xc3, iv 1, iv xc1] []) (fun _ kt => zY X hx hby d4_59 rfl rfl (teq h92_1).1 (pc' := 75) rfl kt) ?_
                  refine oWk.to (mkF m 76 #[rv xa, iv xc3, iv 1, iv xc1] [(.int 0)]) (fun _ kt => zK X hx hby d4_75 rfl kt) ?_
                  exact oRetZ X hx hlk hret (hb hby d4_76) (Or.inl rfl) (by rw [e0]; exact ⟨(by rw [oBi_f (fun q => q.2.2.2.1.2.1 h92_1.symm)]), rfl, K⟩) (by decide) (by decide)
                · refine oWk.to (mkF m 62 #[rv xa, iv xc3, iv 1, iv xc1] []) (fun _ kt => zN X hx hby d4_59 rfl rfl (feq h92_1).1 kt) ?_
                  refine oWk.to (mkF m 65 #[rv xa, iv xc3, iv 1, iv xc1] [(.int xc1), (.int 58)]) (fun _ kt => zL X hx hby d4_62 rfl (zI X hx hby d4_64 rfl rfl kt)) ?_
                  by_cases h58_1 : (58 : Int32) = xc1
                  · refine oWk.to (mkF m 75 #[rv xa, iv xc3, iv 1, iv xc1] []) (fun _ kt => zY X hx hby d4_65 rfl rfl (teq h58_1).1 (pc' := 75) rfl kt) ?_
                    refine oWk.to (mkF m 76 #[rv xa, iv xc3, iv 1, iv xc1] [(.int 0)]) (fun _ kt => zK X hx hby d4_75 rfl kt) ?_
                    exact oRetZ X hx hlk hret (hb hby d4_76) (Or.inl rfl) (by rw [e0]; exact ⟨(by rw [oBi_f (fun q => q.2.2.2.1.2.2.1 h58_1.symm)]), rfl, K⟩) (by decide) (by decide)
                  · refine oWk.to (mkF m 68 #[rv xa, iv xc3, iv 1, iv xc1] []) (fun _ kt => zN X hx hby d4_65 rfl rfl (feq h58_1).1 kt) ?_
                    refine oWk.st (fun _ kt => zI X hx hby d4_68 rfl rfl kt) ?_
                    obtain ⟨T, L18, X, e0, K, st⟩ := (cs18 hw).pure X hx hZ hown e0 K (A := [(.int xc1)]) rfl (rIso l Z a0 hw [] xc1 h0 Oh hr1) (fun _ _ _ q => q) (W := 0) (by decide) hml (Ls := #[rv xa, iv xc3, iv 1, iv xc1]) rfl (rest := []) rfl rfl hby d4_69
                    refine oWk.to (mkF m 72 #[rv xa, iv xc3, iv 1, iv xc1] [(.int (oBi (oIso xc1)))]) (fun _ kt => st _ kt) ?_
                    by_cases hio_1 : oIso xc1
                    · refine oWk.to (mkF m 75 #[rv xa, iv xc3, iv 1, iv xc1] []) (fun _ kt => zH X hx hby d4_72 rfl rfl ((if0 _ _).trans (feq (oBi_ne hio_1)).1) kt) ?_
                      refine oWk.to (mkF m 76 #[rv xa, iv xc3, iv 1, iv xc1] [(.int 0)]) (fun _ kt => zK X hx hby d4_75 rfl kt) ?_
                      exact oRetZ X hx hlk hret (hb hby d4_76) (Or.inl rfl) (by rw [e0]; exact ⟨(by rw [oBi_f (fun q => q.2.2.2.1.2.2.2 hio_1)]), rfl, K⟩) (by decide) (by decide)
                    · refine oWk.to (mkF m 77 #[rv xa, iv xc3, iv 1, iv xc1] []) (fun _ kt => zF X hx hby d4_72 rfl rfl ((if0 _ _).trans (teq (oBi_f hio_1)).1) (pc' := 77) rfl kt) ?_
                      refine oWk.st (fun _ kt => zC X hx hby d4_77 rfl rfl (l' := #[rv xa, iv xc3, iv ((1 : Int32) + (1 : Int32)), iv xc1]) rfl (zG X hx hby d4_80 rfl (pc' := 36) rfl (zI X hx hby d4_36 rfl rfl (zA X hx hby d4_37 rfl rfl rfl kt)))) ?_
                      obtain ⟨T, L20, X, e0, K, st⟩ := (cs16 hw).pure X hx hZ hown e0 K (A := [(.ref xa)]) ⟨rfl, _, _, rfl, E_xa⟩ (rLnU_4 l Z a0 hw [] xa xb xk xz xc0 xc1 xc2 xc3 h0 Oh S_COMPACT_STRINGS hz E_xa F_coder_xa F_value_xa V_xb) (fun _ _ _ q => q) (W := 1) (by decide) hml (Ls := #[rv xa, iv xc3, iv 2, iv xc1]) rfl (rest := [(.int (2 : Int32))]) rfl rfl hby d4_38
                      refine oWk.st (fun _ kt => st _ (zN X hx hby d4_41 rfl rfl (tlt (by decide)).2.1 (zA X hx hby d4_44 rfl rfl rfl (zI X hx hby d4_45 rfl rfl kt)))) ?_
                      obtain ⟨T, L22, X, e0, K, st⟩ := (cs17 hw).pure X hx hZ hown e0 K (A := [(.ref xa), (.int (2 : Int32))]) ⟨rfl, _, _, rfl, E_xa⟩ (rCAU_4_2 l Z a0 hw [] xa xb xk xfm xz xc0 xc1 xc2 xc3 h0 Oh S_COMPACT_STRINGS hz S__assertionsDisabled S_HI_BYTE_SHIFT S_LO_BYTE_SHIFT S_SIOOBE_FORMATTER hcat hr2 E_xa F_coder_xa F_value_xa V_xb) (fun _ _ _ q => q) (W := 0) (by decide) hml (Ls := #[rv xa, iv xc3, iv 2, iv xc1]) rfl (rest := []) rfl rfl hby d4_46
                      refine oWk.to (mkF m 53 #[rv xa, iv xc3, iv 2, iv xc2] [(.int xc2), (.int 47)]) (fun _ kt => st _ (zSn X hx hby d4_49 rfl rfl (l' := #[rv xa, iv xc3, iv 2, iv xc2]) rfl (zL X hx hby d4_50 rfl (zI X hx hby d4_52 rfl rfl kt)))) ?_
                      by_cases h47_2 : (47 : Int32) = xc2
                      · refine oWk.to (mkF m 75 #[rv xa, iv xc3, iv 2, iv xc2] []) (fun _ kt => zY X hx hby d4_53 rfl rfl (teq h47_2).1 (pc' := 75) rfl kt) ?_
                        refine oWk.to (mkF m 76 #[rv xa, iv xc3, iv 2, iv xc2] [(.int 0)]) (fun _ kt => zK X hx hby d4_75 rfl kt) ?_
                        exact oRetZ X hx hlk hret (hb hby d4_76) (Or.inl rfl) (by rw [e0]; exact ⟨(by rw [oBi_f (fun q => q.2.2.2.2.1.1 h47_2.symm)]), rfl, K⟩) (by decide) (by decide)
                      · refine oWk.to (mkF m 56 #[rv xa, iv xc3, iv 2, iv xc2] []) (fun _ kt => zN X hx hby d4_53 rfl rfl (feq h47_2).1 kt) ?_
                        refine oWk.to (mkF m 59 #[rv xa, iv xc3, iv 2, iv xc2] [(.int xc2), (.int 92)]) (fun _ kt => zL X hx hby d4_56 rfl (zI X hx hby d4_58 rfl rfl kt)) ?_
                        by_cases h92_2 : (92 : Int32) = xc2
                        · refine oWk.to (mkF m 75 #[rv xa, iv xc3, iv 2, iv xc2] []) (fun _ kt => zY X hx hby d4_59 rfl rfl (teq h92_2).1 (pc' := 75) rfl kt) ?_
                          refine oWk.to (mkF m 76 #[rv xa, iv xc3, iv 2, iv xc2] [(.int 0)]) (fun _ kt => zK X hx hby d4_75 rfl kt) ?_
                          exact oRetZ X hx hlk hret (hb hby d4_76) (Or.inl rfl) (by rw [e0]; exact ⟨(by rw [oBi_f (fun q => q.2.2.2.2.1.2.1 h92_2.symm)]), rfl, K⟩) (by decide) (by decide)
                        · refine oWk.to (mkF m 62 #[rv xa, iv xc3, iv 2, iv xc2] []) (fun _ kt => zN X hx hby d4_59 rfl rfl (feq h92_2).1 kt) ?_
                          refine oWk.to (mkF m 65 #[rv xa, iv xc3, iv 2, iv xc2] [(.int xc2), (.int 58)]) (fun _ kt => zL X hx hby d4_62 rfl (zI X hx hby d4_64 rfl rfl kt)) ?_
                          by_cases h58_2 : (58 : Int32) = xc2
                          · refine oWk.to (mkF m 75 #[rv xa, iv xc3, iv 2, iv xc2] []) (fun _ kt => zY X hx hby d4_65 rfl rfl (teq h58_2).1 (pc' := 75) rfl kt) ?_
                            refine oWk.to (mkF m 76 #[rv xa, iv xc3, iv 2, iv xc2] [(.int 0)]) (fun _ kt => zK X hx hby d4_75 rfl kt) ?_
                            exact oRetZ X hx hlk hret (hb hby d4_76) (Or.inl rfl) (by rw [e0]; exact ⟨(by rw [oBi_f (fun q => q.2.2.2.2.1.2.2.1 h58_2.symm)]), rfl, K⟩) (by decide) (by decide)
                          · refine oWk.to (mkF m 68 #[rv xa, iv xc3, iv 2, iv xc2] []) (fun _ kt => zN X hx hby d4_65 rfl rfl (feq h58_2).1 kt) ?_
                            refine oWk.st (fun _ kt => zI X hx hby d4_68 rfl rfl kt) ?_
                            obtain ⟨T, L24, X, e0, K, st⟩ := (cs18 hw).pure X hx hZ hown e0 K (A := [(.int xc2)]) rfl (rIso l Z a0 hw [] xc2 h0 Oh hr2) (fun _ _ _ q => q) (W := 0) (by decide) hml (Ls := #[rv xa, iv xc3, iv 2, iv xc2]) rfl (rest := []) rfl rfl hby d4_69
                            refine oWk.to (mkF m 72 #[rv xa, iv xc3, iv 2, iv xc2] [(.int (oBi (oIso xc2)))]) (fun _ kt => st _ kt) ?_
                            by_cases hio_2 : oIso xc2
                            · refine oWk.to (mkF m 75 #[rv xa, iv xc3, iv 2, iv xc2] []) (fun _ kt => zH X hx hby d4_72 rfl rfl ((if0 _ _).trans (feq (oBi_ne hio_2)).1) kt) ?_
                              refine oWk.to (mkF m 76 #[rv xa, iv xc3, iv 2, iv xc2] [(.int 0)]) (fun _ kt => zK X hx hby d4_75 rfl kt) ?_
                              exact oRetZ X hx hlk hret (hb hby d4_76) (Or.inl rfl) (by rw [e0]; exact ⟨(by rw [oBi_f (fun q => q.2.2.2.2.1.2.2.2 hio_2)]), rfl, K⟩) (by decide) (by decide)
                            · refine oWk.to (mkF m 77 #[rv xa, iv xc3, iv 2, iv xc2] []) (fun _ kt => zF X hx hby d4_72 rfl rfl ((if0 _ _).trans (teq (oBi_f hio_2)).1) (pc' := 77) rfl kt) ?_
                              refine oWk.st (fun _ kt => zC X hx hby d4_77 rfl rfl (l' := #[rv xa, iv xc3, iv ((2 : Int32) + (1 : Int32)), iv xc2]) rfl (zG X hx hby d4_80 rfl (pc' := 36) rfl (zI X hx hby d4_36 rfl rfl (zA X hx hby d4_37 rfl rfl rfl kt)))) ?_
                              obtain ⟨T, L26, X, e0, K, st⟩ := (cs16 hw).pure X hx hZ hown e0 K (A := [(.ref xa)]) ⟨rfl, _, _, rfl, E_xa⟩ (rLnU_4 l Z a0 hw [] xa xb xk xz xc0 xc1 xc2 xc3 h0 Oh S_COMPACT_STRINGS hz E_xa F_coder_xa F_value_xa V_xb) (fun _ _ _ q => q) (W := 1) (by decide) hml (Ls := #[rv xa, iv xc3, iv 3, iv xc2]) rfl (rest := [(.int (3 : Int32))]) rfl rfl hby d4_38
                              refine oWk.st (fun _ kt => st _ (zN X hx hby d4_41 rfl rfl (tlt (by decide)).2.1 (zA X hx hby d4_44 rfl rfl rfl (zI X hx hby d4_45 rfl rfl kt)))) ?_
                              obtain ⟨T, L28, X, e0, K, st⟩ := (cs17 hw).pure X hx hZ hown e0 K (A := [(.ref xa), (.int (3 : Int32))]) ⟨rfl, _, _, rfl, E_xa⟩ (rCAU_4_3 l Z a0 hw [] xa xb xk xfm xz xc0 xc1 xc2 xc3 h0 Oh S_COMPACT_STRINGS hz S__assertionsDisabled S_HI_BYTE_SHIFT S_LO_BYTE_SHIFT S_SIOOBE_FORMATTER hcat hr3 E_xa F_coder_xa F_value_xa V_xb) (fun _ _ _ q => q) (W := 0) (by decide) hml (Ls := #[rv xa, iv xc3, iv 3, iv xc2]) rfl (rest := []) rfl rfl hby d4_46
                              refine oWk.to (mkF m 53 #[rv xa, iv xc3, iv 3, iv xc3] [(.int xc3), (.int 47)]) (fun _ kt => st _ (zSn X hx hby d4_49 rfl rfl (l' := #[rv xa, iv xc3, iv 3, iv xc3]) rfl (zL X hx hby d4_50 rfl (zI X hx hby d4_52 rfl rfl kt)))) ?_
                              by_cases h47_3 : (47 : Int32) = xc3
                              · refine oWk.to (mkF m 75 #[rv xa, iv xc3, iv 3, iv xc3] []) (fun _ kt => zY X hx hby d4_53 rfl rfl (teq h47_3).1 (pc' := 75) rfl kt) ?_
                                refine oWk.to (mkF m 76 #[rv xa, iv xc3, iv 3, iv xc3] [(.int 0)]) (fun _ kt => zK X hx hby d4_75 rfl kt) ?_
                                exact oRetZ X hx hlk hret (hb hby d4_76) (Or.inl rfl) (by rw [e0]; exact ⟨(by rw [oBi_f (fun q => q.2.2.2.2.2.1 h47_3.symm)]), rfl, K⟩) (by decide) (by decide)
                              · refine oWk.to (mkF m 56 #[rv xa, iv xc3, iv 3, iv xc3] []) (fun _ kt => zN X hx hby d4_53 rfl rfl (feq h47_3).1 kt) ?_
                                refine oWk.to (mkF m 59 #[rv xa, iv xc3, iv 3, iv xc3] [(.int xc3), (.int 92)]) (fun _ kt => zL X hx hby d4_56 rfl (zI X hx hby d4_58 rfl rfl kt)) ?_
                                by_cases h92_3 : (92 : Int32) = xc3
                                · refine oWk.to (mkF m 75 #[rv xa, iv xc3, iv 3, iv xc3] []) (fun _ kt => zY X hx hby d4_59 rfl rfl (teq h92_3).1 (pc' := 75) rfl kt) ?_
                                  refine oWk.to (mkF m 76 #[rv xa, iv xc3, iv 3, iv xc3] [(.int 0)]) (fun _ kt => zK X hx hby d4_75 rfl kt) ?_
                                  exact oRetZ X hx hlk hret (hb hby d4_76) (Or.inl rfl) (by rw [e0]; exact ⟨(by rw [oBi_f (fun q => q.2.2.2.2.2.2.1 h92_3.symm)]), rfl, K⟩) (by decide) (by decide)
                                · refine oWk.to (mkF m 62 #[rv xa, iv xc3, iv 3, iv xc3] []) (fun _ kt => zN X hx hby d4_59 rfl rfl (feq h92_3).1 kt) ?_
                                  refine oWk.to (mkF m 65 #[rv xa, iv xc3, iv 3, iv xc3] [(.int xc3), (.int 58)]) (fun _ kt => zL X hx hby d4_62 rfl (zI X hx hby d4_64 rfl rfl kt)) ?_
                                  by_cases h58_3 : (58 : Int32) = xc3
                                  · refine oWk.to (mkF m 75 #[rv xa, iv xc3, iv 3, iv xc3] []) (fun _ kt => zY X hx hby d4_65 rfl rfl (teq h58_3).1 (pc' := 75) rfl kt) ?_
                                    refine oWk.to (mkF m 76 #[rv xa, iv xc3, iv 3, iv xc3] [(.int 0)]) (fun _ kt => zK X hx hby d4_75 rfl kt) ?_
                                    exact oRetZ X hx hlk hret (hb hby d4_76) (Or.inl rfl) (by rw [e0]; exact ⟨(by rw [oBi_f (fun q => q.2.2.2.2.2.2.2.1 h58_3.symm)]), rfl, K⟩) (by decide) (by decide)
                                  · refine oWk.to (mkF m 68 #[rv xa, iv xc3, iv 3, iv xc3] []) (fun _ kt => zN X hx hby d4_65 rfl rfl (feq h58_3).1 kt) ?_
                                    refine oWk.st (fun _ kt => zI X hx hby d4_68 rfl rfl kt) ?_
                                    obtain ⟨T, L30, X, e0, K, st⟩ := (cs18 hw).pure X hx hZ hown e0 K (A := [(.int xc3)]) rfl (rIso l Z a0 hw [] xc3 h0 Oh hr3) (fun _ _ _ q => q) (W := 0) (by decide) hml (Ls := #[rv xa, iv xc3, iv 3, iv xc3]) rfl (rest := []) rfl rfl hby d4_69
                                    refine oWk.to (mkF m 72 #[rv xa, iv xc3, iv 3, iv xc3] [(.int (oBi (oIso xc3)))]) (fun _ kt => st _ kt) ?_
                                    by_cases hio_3 : oIso xc3
                                    · refine oWk.to (mkF m 75 #[rv xa, iv xc3, iv 3, iv xc3] []) (fun _ kt => zH X hx hby d4_72 rfl rfl ((if0 _ _).trans (feq (oBi_ne hio_3)).1) kt) ?_
                                      refine oWk.to (mkF m 76 #[rv xa, iv xc3, iv 3, iv xc3] [(.int 0)]) (fun _ kt => zK X hx hby d4_75 rfl kt) ?_
                                      exact oRetZ X hx hlk hret (hb hby d4_76) (Or.inl rfl) (by rw [e0]; exact ⟨(by rw [oBi_f (fun q => q.2.2.2.2.2.2.2.2 hio_3)]), rfl, K⟩) (by decide) (by decide)
                                    · refine oWk.to (mkF m 77 #[rv xa, iv xc3, iv 3, iv xc3] []) (fun _ kt => zF X hx hby d4_72 rfl rfl ((if0 _ _).trans (teq (oBi_f hio_3)).1) (pc' := 77) rfl kt) ?_
                                      refine oWk.st (fun _ kt => zC X hx hby d4_77 rfl rfl (l' := #[rv xa, iv xc3, iv ((3 : Int32) + (1 : Int32)), iv xc3]) rfl (zG X hx hby d4_80 rfl (pc' := 36) rfl (zI X hx hby d4_36 rfl rfl (zA X hx hby d4_37 rfl rfl rfl kt)))) ?_
                                      obtain ⟨T, L32, X, e0, K, st⟩ := (cs16 hw).pure X hx hZ hown e0 K (A := [(.ref xa)]) ⟨rfl, _, _, rfl, E_xa⟩ (rLnU_4 l Z a0 hw [] xa xb xk xz xc0 xc1 xc2 xc3 h0 Oh S_COMPACT_STRINGS hz E_xa F_coder_xa F_value_xa V_xb) (fun _ _ _ q => q) (W := 1) (by decide) hml (Ls := #[rv xa, iv xc3, iv 4, iv xc3]) rfl (rest := [(.int (4 : Int32))]) rfl rfl hby d4_38
                                      refine oWk.to (mkF m 84 #[rv xa, iv xc3, iv 4, iv xc3] [(.int 1)]) (fun _ kt => st _ (zY X hx hby d4_41 rfl rfl (flt (by decide)).2.1 (pc' := 83) rfl (zK X hx hby d4_83 rfl kt))) ?_
                                      exact oRetZ X hx hlk hret (hb hby d4_84) (Or.inr rfl) (by rw [e0]; exact ⟨(by rw [oBi_t ⟨fun q => hq46 q.symm, fun q => hq32 q.symm, ⟨fun q => h47_0 q.symm, fun q => h92_0 q.symm, fun q => h58_0 q.symm, hio_0⟩, ⟨fun q => h47_1 q.symm, fun q => h92_1 q.symm, fun q => h58_1 q.symm, hio_1⟩, ⟨fun q => h47_2 q.symm, fun q => h92_2 q.symm, fun q => h58_2 q.symm, hio_2⟩, ⟨fun q => h47_3 q.symm, fun q => h92_3 q.symm, fun q => h58_3 q.symm, hio_3⟩⟩]), rfl, K⟩) (by decide) (by decide)
theorem oLn5 (p : Int32) : ((p &&& 2147483647) % 5) = 0 ∨ ((p &&& 2147483647) % 5) = 1 ∨ ((p &&& 2147483647) % 5) = 2 ∨ ((p &&& 2147483647) % 5) = 3 ∨ ((p &&& 2147483647) % 5) = 4 := by
  have a := c_mask p 2147483647 31 (by decide) (by decide)
  have b := (c_irem (p &&& 2147483647) 5 5 rfl).1
  have e : ∀ j : Int32, ((p &&& 2147483647) % 5).toInt = j.toInt → ((p &&& 2147483647) % 5) = j := fun j q => Int32.toInt_inj.mp q
  have d : ((p &&& 2147483647) % 5).toInt = 0 ∨ ((p &&& 2147483647) % 5).toInt = 1 ∨ ((p &&& 2147483647) % 5).toInt = 2 ∨ ((p &&& 2147483647) % 5).toInt = 3 ∨ ((p &&& 2147483647) % 5).toInt = 4 := by omega
  exact d.imp (e 0) (Or.imp (e 1) (Or.imp (e 2) (Or.imp (e 3) (e 4))))
theorem oLt256 {x : Int32} (h : 0 ≤ x.toInt ∧ x.toInt < 65536) (q : ¬ (255 : Int32) < x) : 0 ≤ x.toInt ∧ x.toInt < 256 := by
  have a : ¬ (255 : Int32).toInt < x.toInt := fun z => q (Int32.lt_iff_toInt_lt.mpr z)
  have s : (255 : Int32).toInt = 255 := by decide
  omega
theorem oLU1 (c0 : Int32) : (¬ (255 : Int32) < c0) ∨ (((255 : Int32) < c0)) := by
  by_cases h0 : (255 : Int32) < c0
  · exact Or.inr (h0)
  exact Or.inl h0
theorem oLU2 (c0 c1 : Int32) : (¬ (255 : Int32) < c0 ∧ ¬ (255 : Int32) < c1) ∨ (((255 : Int32) < c0) ∨ (¬ (255 : Int32) < c0 ∧ (255 : Int32) < c1)) := by
  by_cases h0 : (255 : Int32) < c0
  · exact Or.inr (Or.inl h0)
  by_cases h1 : (255 : Int32) < c1
  · exact Or.inr (Or.inr (⟨h0, h1⟩))
  exact Or.inl ⟨h0, h1⟩
theorem oLU3 (c0 c1 c2 : Int32) : (¬ (255 : Int32) < c0 ∧ ¬ (255 : Int32) < c1 ∧ ¬ (255 : Int32) < c2) ∨ (((255 : Int32) < c0) ∨ (¬ (255 : Int32) < c0 ∧ (255 : Int32) < c1) ∨ (¬ (255 : Int32) < c0 ∧ ¬ (255 : Int32) < c1 ∧ (255 : Int32) < c2)) := by
  by_cases h0 : (255 : Int32) < c0
  · exact Or.inr (Or.inl h0)
  by_cases h1 : (255 : Int32) < c1
  · exact Or.inr (Or.inr (Or.inl ⟨h0, h1⟩))
  by_cases h2 : (255 : Int32) < c2
  · exact Or.inr (Or.inr (Or.inr (⟨h0, h1, h2⟩)))
  exact Or.inl ⟨h0, h1, h2⟩
theorem oLU4 (c0 c1 c2 c3 : Int32) : (¬ (255 : Int32) < c0 ∧ ¬ (255 : Int32) < c1 ∧ ¬ (255 : Int32) < c2 ∧ ¬ (255 : Int32) < c3) ∨ (((255 : Int32) < c0) ∨ (¬ (255 : Int32) < c0 ∧ (255 : Int32) < c1) ∨ (¬ (255 : Int32) < c0 ∧ ¬ (255 : Int32) < c1 ∧ (255 : Int32) < c2) ∨ (¬ (255 : Int32) < c0 ∧ ¬ (255 : Int32) < c1 ∧ ¬ (255 : Int32) < c2 ∧ (255 : Int32) < c3)) := by
  by_cases h0 : (255 : Int32) < c0
  · exact Or.inr (Or.inl h0)
  by_cases h1 : (255 : Int32) < c1
  · exact Or.inr (Or.inr (Or.inl ⟨h0, h1⟩))
  by_cases h2 : (255 : Int32) < c2
  · exact Or.inr (Or.inr (Or.inr (Or.inl ⟨h0, h1, h2⟩)))
  by_cases h3 : (255 : Int32) < c3
  · exact Or.inr (Or.inr (Or.inr (Or.inr (⟨h0, h1, h2, h3⟩))))
  exact Or.inl ⟨h0, h1, h2, h3⟩
def Q_rLaw (Z : State) (p0 p1 p2 p3 p4 : Int32) (xfm : Value) (xz : Int32) (h0 : Heap) (v : Option Value) (h : Heap) (L : List Loc) : Prop := v = some (.int (1 : Int32)) ∧ Fr h0.size L
theorem pd_18 : parseMethodDescriptor "([C)V" = some ⟨[(.array .char)], none⟩ := by decide +kernel
theorem pd_19 : parseMethodDescriptor "(Ljava/lang/String;)Z" = some ⟨[(.object "java/lang/String")], some .boolean⟩ := by decide +kernel
theorem cs23 {a0 : Array Value} {Z : State} (hw : oHW a0 Z) : oCall Z Y8 (.invokestatic 20) yy14 prog_11_method_4_code 4 (some .boolean) (oRs 1) := oCall.stat (oW hw 24 rfl) (oW hw 25 rfl) (oW hw 26 rfl) (oW hw 27 rfl) (by decide) pd_19
theorem cs24 {a0 : Array Value} {Z : State} (hw : oHW a0 Z) : oCall Z Y8 (.invokestatic 9) yy2 method_3_code 1 (some .boolean) (oRs 1) := oCall.stat (oW hw 33 rfl) (oW hw 34 rfl) (oW hw 35 rfl) (oW hw 36 rfl) (by decide) pd_15
theorem cs25 {a0 : Array Value} {Z : State} (hw : oHW a0 Z) : oCall Z Y8 (.invokespecial 17) yy4 jdk_42_method_3_code 2 none (oRi 1) := oCall.init rfl (oW hw 6 rfl) (oW hw 7 rfl) (oW hw 5 rfl) (oW hw 8 rfl) (by decide) pd_18
theorem rLaw (l : Launch) (Z : State) (a0 : Array Value) (hw : oHW a0 Z) (ws : List Jvm.Cond) (p0 p1 p2 p3 p4 : Int32) (xfm : Value) (xz : Int32) (h0 : Heap) (O0 : Ext Z.heap h0) (S_COMPACT_STRINGS : Sta Z Z.heap Y0 Y6 "Z" (.int xz)) (hz : ¬ xz = (0 : Int32)) (S__assertionsDisabled : Sta Z Z.heap Y1 Y3 "Z" (.int (1 : Int32))) (S_HI_BYTE_SHIFT : Sta Z Z.heap Y1 "HI_BYTE_SHIFT" "I" (.int (0 : Int32))) (S_LO_BYTE_SHIFT : Sta Z Z.heap Y1 "LO_BYTE_SHIFT" "I" (.int (8 : Int32))) (S_SIOOBE_FORMATTER : Sta Z Z.heap Y2 Y4 Y5 xfm) (hcat : xfm.category = 1) :
    oConH l Z oEL x code maxLocals ret ws room_1 #[(.int p0), (.int p1), (.int p2), (.int p3), (.int p4)] h0 [] (Q_rLaw Z p0 p1 p2 p3 p4 xfm xz h0) := by
  refine oConH.of (plainFor_of_name pn_1) ?_
  intro p e s m below meth c T vm X hx hby hml hown hnm hret hlk hZ e0 B hsf
  have hml : c.maxLocals = 14 := hml
  have K : oKp h0 h0 [] [] := oKp.nil _ _
  refine oWk.cast (g' := (mkF m 0 #[iv p0, iv p1, iv p2, iv p3, iv p4, uu, uu, uu, uu, uu, uu, uu, uu, uu] [])) (by first | rfl | (simp [entryFrame, mkF, argsToLocals, Value.category, maxLocals]; done)) ?_
  refine oWk.st (fun _ kt => zI X hx hby at_0 rfl rfl kt) ?_
  refine oWk.to (mkF m 6 #[iv p0, iv p1, iv p2, iv p3, iv p4, uu, uu, uu, uu, uu, uu, uu, uu, uu] [(.int ((p0 &&& (2147483647 : Int32)) % (5 : Int32)))]) (fun _ kt => X.ldcI hx hown (mvT hZ (oW hw 0 rfl)) rfl (hb hby at_1) (XS.iand X.here hx rfl (hb hby at_3) rfl (zK X hx hby at_4 rfl (iremM X hx rfl (hb hby at_5) rfl (by decide) kt)))) ?_
  generalize hle_ : ((p0 &&& (2147483647 : Int32)) % (5 : Int32)) = ln
  show oWk _ _ _ _ T (mkF m 6 #[iv p0, iv p1, iv p2, iv p3, iv p4, uu, uu, uu, uu, uu, uu, uu, uu, uu] [(.int ln)])
  have hln := oLn5 p0
  rw [hle_] at hln
  refine oWk.st (fun _ kt => zS X hx hby at_6 rfl rfl (l' := #[iv p0, iv p1, iv p2, iv p3, iv p4, iv ln, uu, uu, uu, uu, uu, uu, uu, uu]) rfl (zI X hx hby at_8 rfl rfl kt)) ?_
  refine oWk.to (mkF m 13 #[iv p0, iv p1, iv p2, iv p3, iv p4, iv ln, uu, uu, uu, uu, uu, uu, uu, uu] [(.int ((p1 &&& (65535 : Int32)).toUInt32.toUInt16.toUInt32.toInt32))]) (fun _ kt => X.ldcI hx hown (mvT hZ (oW hw 1 rfl)) rfl (hb hby at_9) (XS.iand X.here hx rfl (hb hby at_11) rfl (XS.i2c X.here hx rfl (hb hby at_12) rfl kt))) ?_
  rw [oChrU (oM16 _)]
  show oWk _ _ _ _ T (mkF m 13 #[iv p0, iv p1, iv p2, iv p3, iv p4, iv ln, uu, uu, uu, uu, uu, uu, uu, uu] [(.int (p1 &&& (65535 : Int32)))])
  have r_c0_ := oM16 p1
  generalize hg_c0_ : (p1 &&& (65535 : Int32)) = c0_ at *
  show oWk _ _ _ _ T (mkF m 13 #[iv p0, iv p1, iv p2, iv p3, iv p4, iv ln, uu, uu, uu, uu, uu, uu, uu, uu] [(.int c0_)])
  refine oWk.st (fun _ kt => zS X hx hby at_13 rfl rfl (l' := #[iv p0, iv p1, iv p2, iv p3, iv p4, iv ln, iv c0_, uu, uu, uu, uu, uu, uu, uu]) rfl (zI X hx hby at_15 rfl rfl kt)) ?_
  refine oWk.to (mkF m 20 #[iv p0, iv p1, iv p2, iv p3, iv p4, iv ln, iv c0_, uu, uu, uu, uu, uu, uu, uu] [(.int ((p2 &&& (65535 : Int32)).toUInt32.toUInt16.toUInt32.toInt32))]) (fun _ kt => X.ldcI hx hown (mvT hZ (oW hw 1 rfl)) rfl (hb hby at_16) (XS.iand X.here hx rfl (hb hby at_18) rfl (XS.i2c X.here hx rfl (hb hby at_19) rfl kt))) ?_
  rw [oChrU (oM16 _)]
  show oWk _ _ _ _ T (mkF m 20 #[iv p0, iv p1, iv p2, iv p3, iv p4, iv ln, iv c0_, uu, uu, uu, uu, uu, uu, uu] [(.int (p2 &&& (65535 : Int32)))])
  have r_c1_ := oM16 p2
  generalize hg_c1_ : (p2 &&& (65535 : Int32)) = c1_ at *
  show oWk _ _ _ _ T (mkF m 20 #[iv p0, iv p1, iv p2, iv p3, iv p4, iv ln, iv c0_, uu, uu, uu, uu, uu, uu, uu] [(.int c1_)])
  refine oWk.st (fun _ kt => zS X hx hby at_20 rfl rfl (l' := #[iv p0, iv p1, iv p2, iv p3, iv p4, iv ln, iv c0_, iv c1_, uu, uu, uu, uu, uu, uu]) rfl (zI X hx hby at_22 rfl rfl kt)) ?_
  refine oWk.to (mkF m 27 #[iv p0, iv p1, iv p2, iv p3, iv p4, iv ln, iv c0_, iv c1_, uu, uu, uu, uu, uu, uu] [(.int ((p3 &&& (65535 : Int32)).toUInt32.toUInt16.toUInt32.toInt32))]) (fun _ kt => X.ldcI hx hown (mvT hZ (oW hw 1 rfl)) rfl (hb hby at_23) (XS.iand X.here hx rfl (hb hby at_25) rfl (XS.i2c X.here hx rfl (hb hby at_26) rfl kt))) ?_
  rw [oChrU (oM16 _)]
  show oWk _ _ _ _ T (mkF m 27 #[iv p0, iv p1, iv p2, iv p3, iv p4, iv ln, iv c0_, iv c1_, uu, uu, uu, uu, uu, uu] [(.int (p3 &&& (65535 : Int32)))])
  have r_c2_ := oM16 p3
  generalize hg_c2_ : (p3 &&& (65535 : Int32)) = c2_ at *
  show oWk _ _ _ _ T (mkF m 27 #[iv p0, iv p1, iv p2, iv p3, iv p4, iv ln, iv c0_, iv c1_, uu, uu, uu, uu, uu, uu] [(.int c2_)])
  refine oWk.st (fun _ kt => zS X hx hby at_27 rfl rfl (l' := #[iv p0, iv p1, iv p2, iv p3, iv p4, iv ln, iv c0_, iv c1_, iv c2_, uu, uu, uu, uu, uu]) rfl (zJ X hx hby at_29 rfl rfl kt)) ?_
  refine oWk.to (mkF m 35 #[iv p0, iv p1, iv p2, iv p3, iv p4, iv ln, iv c0_, iv c1_, iv c2_, uu, uu, uu, uu, uu] [(.int ((p4 &&& (65535 : Int32)).toUInt32.toUInt16.toUInt32.toInt32))]) (fun _ kt => X.ldcI hx hown (mvT hZ (oW hw 1 rfl)) rfl (hb hby at_31) (XS.iand X.here hx rfl (hb hby at_33) rfl (XS.i2c X.here hx rfl (hb hby at_34) rfl kt))) ?_
  rw [oChrU (oM16 _)]
  show oWk _ _ _ _ T (mkF m 35 #[iv p0, iv p1, iv p2, iv p3, iv p4, iv ln, iv c0_, iv c1_, iv c2_, uu, uu, uu, uu, uu] [(.int (p4 &&& (65535 : Int32)))])
  have r_c3_ := oM16 p4
  generalize hg_c3_ : (p4 &&& (65535 : Int32)) = c3_ at *
  show oWk _ _ _ _ T (mkF m 35 #[iv p0, iv p1, iv p2, iv p3, iv p4, iv ln, iv c0_, iv c1_, iv c2_, uu, uu, uu, uu, uu] [(.int c3_)])
  refine oWk.to (mkF m 37 #[iv p0, iv p1, iv p2, iv p3, iv p4, iv ln, iv c0_, iv c1_, iv c2_, iv c3_, uu, uu, uu, uu] []) (fun _ kt => zS X hx hby at_35 rfl rfl (l' := #[iv p0, iv p1, iv p2, iv p3, iv p4, iv ln, iv c0_, iv c1_, iv c2_, iv c3_, uu, uu, uu, uu]) rfl kt) ?_
  rcases hln with rfl | rfl | rfl | rfl | rfl
  · show oWk _ _ _ _ T (mkF m 37 #[iv p0, iv p1, iv p2, iv p3, iv p4, iv 0, iv c0_, iv c1_, iv c2_, iv c3_, uu, uu, uu, uu] [])
    refine oWk.st (fun _ kt => zJ X hx hby at_37 rfl rfl kt) ?_
    obtain ⟨cs, g1⟩ : ∃ z, z = h0.size := ⟨_, rfl⟩
    have ge_cs : h0.size ≤ cs := Nat.le_trans K.le (Nat.le_of_eq g1.symm)
    have sf_cs := B.new (Nat.le_of_eq g1.symm)
    obtain ⟨T, h, k1, X, e0, E1, A1, st⟩ := newP X hx hZ (oW hw 2 rfl) e0 (g := (mkF m 39 #[iv p0, iv p1, iv p2, iv p3, iv p4, iv 0, iv c0_, iv c1_, iv c2_, iv c3_, uu, uu, uu, uu] [(.int 0)])) rfl (hb hby at_39) rfl (by decide) (cap := 0) (by decide) (by decide) (by decide) (by decide)
    rw [← g1] at A1 st
    have K := K.ext E1
    have sf_cs := Safe.ext E1 B.2.1 sf_cs
    have B := B.ext E1
    have V_cs : Arv Z h cs k1 .char (0 : Int32) [] (.int (0 : Int32)) := (Arv.new A1 (by decide)).pad (pad_rep [] (.int (0 : Int32)) 0)
    refine oWk.to (mkF m 66 #[iv p0, iv p1, iv p2, iv p3, iv p4, iv 0, iv c0_, iv c1_, iv c2_, iv c3_, rv cs, uu, uu, uu] []) (fun _ kt => st _ (zT X hx hby at_41 rfl rfl rfl (l' := #[iv p0, iv p1, iv p2, iv p3, iv p4, iv 0, iv c0_, iv c1_, iv c2_, iv c3_, rv cs, uu, uu, uu]) rfl (zJ X hx hby at_43 rfl rfl (zF X hx hby at_45 rfl rfl ((if0 _ _).trans (flt (by decide)).2.2.2) (pc' := 54) rfl (zJ X hx hby at_54 rfl rfl (zK X hx hby at_56 rfl (zY X hx hby at_57 rfl rfl (flt (by decide)).2.2.2 (pc' := 66) rfl kt))))))) ?_
    refine oWk.to (mkF m 92 #[iv p0, iv p1, iv p2, iv p3, iv p4, iv 0, iv c0_, iv c1_, iv c2_, iv c3_, rv cs, uu, uu, uu] [(.int 0)]) (fun _ kt => zJ X hx hby at_66 rfl rfl (zK X hx hby at_68 rfl (zY X hx hby at_69 rfl rfl (flt (by decide)).2.2.2 (pc' := 78) rfl (zJ X hx hby at_78 rfl rfl (zK X hx hby at_80 rfl (zY X hx hby at_81 rfl rfl (flt (by decide)).2.2.2 (pc' := 90) rfl (zJ X hx hby at_90 rfl rfl kt))))))) ?_
    refine oWk.to (mkF m 227 #[iv p0, iv p1, iv p2, iv p3, iv p4, iv 0, iv c0_, iv c1_, iv c2_, iv c3_, rv cs, iv 0, uu, uu] []) (fun _ kt => zH X hx hby at_92 rfl rfl ((if0 _ _).trans (teq (by decide)).2) (zK X hx hby at_95 rfl (zS X hx hby at_96 rfl rfl (l' := #[iv p0, iv p1, iv p2, iv p3, iv p4, iv 0, iv c0_, iv c1_, iv c2_, iv c3_, rv cs, iv 0, uu, uu]) rfl (zG X hx hby at_98 rfl (pc' := 227) rfl kt)))) ?_
    obtain ⟨so, g2⟩ : ∃ z, z = h.size := ⟨_, rfl⟩
    have ne_cs_so : cs ≠ so := Nat.ne_of_lt (Nat.lt_of_lt_of_le V_cs.lt (Nat.le_of_eq g2.symm))
    have ge_so : h0.size ≤ so := Nat.le_trans K.le (Nat.le_of_eq g2.symm)
    have sf_so := B.new (Nat.le_of_eq g2.symm)
    obtain ⟨T, h, X, e0, E2, A2, D2, -, st⟩ := newO X hx hZ hown (oW hw 3 rfl) (oW hw 4 rfl) (oW hw 5 rfl) e0 (g := (mkF m 227 #[iv p0, iv p1, iv p2, iv p3, iv p4, iv 0, iv c0_, iv c1_, iv c2_, iv c3_, rv cs, iv 0, uu, uu] [])) rfl (hb hby at_227) (by decide) (by decide)
    rw [← g2] at A2 D2 st
    have K := K.ext E2
    have sf_cs := Safe.ext E2 B.2.1 sf_cs
    have sf_so := Safe.ext E2 B.2.1 sf_so
    have B := B.ext E2
    have E_so := A2
    have F_value_so : Fld Z h so Y0 "value" "[B" .null := D2 (Or.inr (oW hw 18 rfl)) (ty := (.array .byte)) (by decide)
    have F_coder_so : Fld Z h so Y0 "coder" "B" (.int (0 : Int32)) := D2 (Or.inr (oW hw 19 rfl)) (ty := .byte) (by decide)
    refine oWk.st (fun _ kt => st _ (zD X hx hby at_230 rfl rfl rfl (zB X hx hby at_231 rfl rfl rfl kt))) ?_
    have V_cs := (V_cs.ext E2)
    have Oh := K.old O0 all0
    obtain ⟨_, _, ⟨T, L4, k4, n4⟩, -, X, hS, hgr, ⟨Lc4, hQ, l4, y4, z4, C⟩, st⟩ := X.specialBackS hx (y := yy4) rfl hown (mvT hZ (oW hw 6 rfl)) (mvT hZ (oW hw 7 rfl)) (mvT hZ (oW hw 8 rfl)) (by decide) (oBackH (W := 1) (rI1_0 l Z a0 hw [] so cs k1 .null (.int (0 : Int32)) h Oh (Nat.le_trans O0.1 ge_so) E_so F_value_so F_coder_so V_cs) hZ (oW hw 8 rfl) (oW hw 5 rfl) (by decide) (by decide) (oELw hw) B.2.1 (allS ⟨E_so.lt, sf_so⟩ all0)) (g := (mkF m 233 #[iv p0, iv p1, iv p2, iv p3, iv p4, iv 0, iv c0_, iv c1_, iv c2_, iv c3_, rv cs, iv 0, uu, uu] [(.ref cs), (.ref so), (.ref so)])) rfl (by rw [hml]; rfl) (Steps.refl _) (a := so) (argsL := [(.ref cs)]) (rest := [(.ref so)]) (lenOf pd_18 rfl) rfl (Nat.le_of_eq rfl) (hb hby at_233) (fun _ _ => ⟨rfl, e0, (by decide : 2 + 4 ≤ _), (by decide : 4 + 8 ≤ _)⟩)
    dsimp only [Pt.U, Pt.locs, Pt.cells, Pt.slots] at X l4 y4 z4 st hQ C hS hgr
    subst l4 y4 z4
    have X : Stand p l e _ (s.setVm T.vm) m _ below meth c T _ _ _ := X
    obtain ⟨h, e2⟩ : ∃ z, T.heap = z := ⟨_, rfl⟩
    have B := B.call e0 hS hgr C e2
    obtain ⟨hZ, hown⟩ := oWide hZ hown hS
    rw [e2] at hQ C
    have sf_cs := C.safe V_cs.lt sf_cs
    have sf_so := C.safe E_so.lt sf_so
    have e0 := e2
    obtain ⟨sob, sobk, rfl, K3, E_so, F_coder_so, F_value_so, V_sob⟩ := hQ
    have K := K.call K3 (allS (Or.inr ge_so) all0)
    refine oWk.st (fun _ kt => st.trans kt) ?_
    have Oh := K.old O0 all0
    obtain ⟨T, L6, X, e0, K, st⟩ := (cs23 hw).pure X hx hZ hown e0 K (A := [(.ref so)]) rfl (rSSL_0 l Z a0 hw [] so sob sobk h Oh E_so F_coder_so F_value_so V_sob) (fun _ _ _ q => q) (W := 0) (by decide) hml (Ls := #[iv p0, iv p1, iv p2, iv p3, iv p4, iv 0, iv c0_, iv c1_, iv c2_, iv c3_, rv cs, iv 0, uu, uu]) rfl (rest := []) rfl rfl hby at_236
    refine oWk.to (mkF m 249 #[iv p0, iv p1, iv p2, iv p3, iv p4, iv 0, iv c0_, iv c1_, iv c2_, iv c3_, rv cs, iv 0, uu, uu] [(.int 1)]) (fun _ kt => st _ (zJ X hx hby at_239 rfl rfl (zN X hx hby at_241 rfl rfl (teq (by decide)).2 (zK X hx hby at_244 rfl (zG X hx hby at_245 rfl (pc' := 249) rfl kt))))) ?_
    exact oRetH X hx hlk hZ (oELw hw) e0 B hret (oNar01 (Or.inr rfl)) (Or.inl ⟨rfl, Or.inr (Or.inl rfl), _, rfl⟩) (hb hby at_249) (by rw [e0]; exact ⟨rfl, K.fr⟩) (by decide) (by decide)
  · show oWk _ _ _ _ T (mkF m 37 #[iv p0, iv p1, iv p2, iv p3, iv p4, iv 1, iv c0_, iv c1_, iv c2_, iv c3_, uu, uu, uu, uu] [])
    refine oWk.st (fun _ kt => zJ X hx hby at_37 rfl rfl kt) ?_
    obtain ⟨cs, g7⟩ : ∃ z, z = h0.size := ⟨_, rfl⟩
    have ge_cs : h0.size ≤ cs := Nat.le_trans K.le (Nat.le_of_eq g7.symm)
    have sf_cs := B.new (Nat.le_of_eq g7.symm)
    obtain ⟨T, h, k7, X, e0, E7, A7, st⟩ := newP X hx hZ (oW hw 2 rfl) e0 (g := (mkF m 39 #[iv p0, iv p1, iv p2, iv p3, iv p4, iv 1, iv c0_, iv c1_, iv c2_, iv c3_, uu, uu, uu, uu] [(.int 1)])) rfl (hb hby at_39) rfl (by decide) (cap := 1) (by decide) (by decide) (by decide) (by decide)
    rw [← g7] at A7 st
    have K := K.ext E7
    have sf_cs := Safe.ext E7 B.2.1 sf_cs
    have B := B.ext E7
    have V_cs : Arv Z h cs k7 .char (1 : Int32) [(.int (0 : Int32))] (.int (0 : Int32)) := (Arv.new A7 (by decide)).pad (pad_rep [] (.int (0 : Int32)) 1)
    refine oWk.to (mkF m 53 #[iv p0, iv p1, iv p2, iv p3, iv p4, iv 1, iv c0_, iv c1_, iv c2_, iv c3_, rv cs, uu, uu, uu] [(.int c0_), (.int 0), (.ref cs)]) (fun _ kt => st _ (zT X hx hby at_41 rfl rfl rfl (l' := #[iv p0, iv p1, iv p2, iv p3, iv p4, iv 1, iv c0_, iv c1_, iv c2_, iv c3_, rv cs, uu, uu, uu]) rfl (zJ X hx hby at_43 rfl rfl (zH X hx hby at_45 rfl rfl ((if0 _ _).trans (tlt (by decide)).2.2.2) (zB X hx hby at_48 rfl rfl rfl (zK X hx hby at_50 rfl (zJ X hx hby at_51 rfl rfl kt))))))) ?_
    obtain ⟨cl8, Ar8, q8, Sz8, Nn8, Hs8, Ft8⟩ := id V_cs
    have hin8 : ¬ ((0 : Int32) < 0 ∨ cl8.slots.size ≤ ((0 : Int32)).toNatClampNeg) := inb_of Sz8 ⟨by decide, by decide⟩
    obtain ⟨T, h, X, e0, W8, st⟩ := stC X hx hZ e0 Ar8 (j := (0 : Int32)) hin8 (g := (mkF m 53 #[iv p0, iv p1, iv p2, iv p3, iv p4, iv 1, iv c0_, iv c1_, iv c2_, iv c3_, rv cs, uu, uu, uu] [(.int c0_), (.int 0), (.ref cs)])) rfl rfl (hb hby at_53)
    have K := K.wr W8 (Or.inr ge_cs)
    have sw : Safe Z oEL _ _ cs := sf_cs
    have sf_cs := Safe.wr W8 sw B.2.1 sf_cs
    have B := B.wr W8 sw
    have V_cs := Arv.set Ar8 q8 Sz8 Nn8 Hs8 Ft8 (fits_nar_char _) W8 0 rfl (Nat.le_of_ble_eq_true rfl)
    rw [show nar .char c0_ = c0_ from oChrU r_c0_] at V_cs
    replace V_cs : Arv Z h cs k7 .char (1 : Int32) [(.int c0_)] (.int (0 : Int32)) := V_cs
    refine oWk.to (mkF m 78 #[iv p0, iv p1, iv p2, iv p3, iv p4, iv 1, iv c0_, iv c1_, iv c2_, iv c3_, rv cs, uu, uu, uu] []) (fun _ kt => st _ (zJ X hx hby at_54 rfl rfl (zK X hx hby at_56 rfl (zY X hx hby at_57 rfl rfl (flt (by decide)).2.2.2 (pc' := 66) rfl (zJ X hx hby at_66 rfl rfl (zK X hx hby at_68 rfl (zY X hx hby at_69 rfl rfl (flt (by decide)).2.2.2 (pc' := 78) rfl kt))))))) ?_
    refine oWk.to (mkF m 104 #[iv p0, iv p1, iv p2, iv p3, iv p4, iv 1, iv c0_, iv c1_, iv c2_, iv c3_, rv cs, uu, uu, uu] [(.int 1), (.int 1)]) (fun _ kt => zJ X hx hby at_78 rfl rfl (zK X hx hby at_80 rfl (zY X hx hby at_81 rfl rfl (flt (by decide)).2.2.2 (pc' := 90) rfl (zJ X hx hby at_90 rfl rfl (zF X hx hby at_92 rfl rfl ((if0 _ _).trans (feq (by decide)).2) (pc' := 101) rfl (zJ X hx hby at_101 rfl rfl (zK X hx hby at_103 rfl kt))))))) ?_
    refine oWk.st (fun _ kt => zN X hx hby at_104 rfl rfl (teq (by decide)).2 (zJ X hx hby at_107 rfl rfl (zS X hx hby at_109 rfl rfl (l' := #[iv p0, iv p1, iv p2, iv p3, iv p4, iv 1, iv c0_, iv c1_, iv c2_, iv c3_, rv cs, uu, iv c0_, uu]) rfl (zG X hx hby at_111 rfl (pc' := 144) rfl (zJ X hx hby at_144 rfl rfl kt))))) ?_
    have Oh := K.old O0 all0
    obtain ⟨T, L10, X, e0, K, st⟩ := (cs24 hw).pure X hx hZ hown e0 K (A := [(.int c0_)]) rfl (rPl l Z a0 hw [] c0_ h Oh ) (fun _ _ _ q => q) (W := 0) (by decide) hml (Ls := #[iv p0, iv p1, iv p2, iv p3, iv p4, iv 1, iv c0_, iv c1_, iv c2_, iv c3_, rv cs, uu, iv c0_, uu]) rfl (rest := []) rfl rfl hby at_146
    refine oWk.to (mkF m 149 #[iv p0, iv p1, iv p2, iv p3, iv p4, iv 1, iv c0_, iv c1_, iv c2_, iv c3_, rv cs, uu, iv c0_, uu] [(.int (oBi (oPl c0_)))]) (fun _ kt => st _ kt) ?_
    have J199 : ∀ (ao : Int32), ao = oBi (oPl c0_) → ∀ (T' : State) (L' : List Loc), oStd X T' L' → T'.heap = h → oKp h0 h [] L' → oWk p.tables e below (oDnH Z oEL s h0 below (Q_rLaw Z p0 p1 p2 p3 p4 xfm xz h0) room_1.cells room_1.slots) T' (mkF m 199 #[iv p0, iv p1, iv p2, iv p3, iv p4, iv 1, iv c0_, iv c1_, iv c2_, iv c3_, rv cs, uu, iv c0_, uu] [(.int ao)]) := by
      intro ao hao T LJ X e0 K
      have X : Stand p l e _ _ m _ below meth c T LJ _ _ := X
      subst hao
      show oWk _ _ _ _ T (mkF m 199 #[iv p0, iv p1, iv p2, iv p3, iv p4, iv 1, iv c0_, iv c1_, iv c2_, iv c3_, rv cs, uu, iv c0_, uu] [(.int (oBi (oPl c0_)))])
      refine oWk.to (mkF m 205 #[iv p0, iv p1, iv p2, iv p3, iv p4, iv 1, iv c0_, iv c1_, iv c2_, iv c3_, rv cs, uu, iv c0_, iv (oBi (oPl c0_))] [(.int 46), (.int c0_)]) (fun _ kt => zS X hx hby at_199 rfl rfl (l' := #[iv p0, iv p1, iv p2, iv p3, iv p4, iv 1, iv c0_, iv c1_, iv c2_, iv c3_, rv cs, uu, iv c0_, iv (oBi (oPl c0_))]) rfl (zJ X hx hby at_201 rfl rfl (zL X hx hby at_203 rfl kt))) ?_
      have J225 : ∀ (ex : Int32), ex = oBi (¬ c0_ = (46 : Int32) ∧ ¬ c0_ = (32 : Int32) ∧ oPl c0_) → oWk p.tables e below (oDnH Z oEL s h0 below (Q_rLaw Z p0 p1 p2 p3 p4 xfm xz h0) room_1.cells room_1.slots) T (mkF m 225 #[iv p0, iv p1, iv p2, iv p3, iv p4, iv 1, iv c0_, iv c1_, iv c2_, iv c3_, rv cs, uu, iv c0_, iv (oBi (oPl c0_))] [(.int ex)]) := by
        intro ex hex
        subst hex
        show oWk _ _ _ _ T (mkF m 225 #[iv p0, iv p1, iv p2, iv p3, iv p4, iv 1, iv c0_, iv c1_, iv c2_, iv c3_, rv cs, uu, iv c0_, iv (oBi (oPl c0_))] [(.int (oBi (¬ c0_ = (46 : Int32) ∧ ¬ c0_ = (32 : Int32) ∧ oPl c0_)))])
        refine oWk.to (mkF m 227 #[iv p0, iv p1, iv p2, iv p3, iv p4, iv 1, iv c0_, iv c1_, iv c2_, iv c3_, rv cs, iv (oBi (¬ c0_ = (46 : Int32) ∧ ¬ c0_ = (32 : Int32) ∧ oPl c0_)), iv c0_, iv (oBi (oPl c0_))] []) (fun _ kt => zS X hx hby at_225 rfl rfl (l' := #[iv p0, iv p1, iv p2, iv p3, iv p4, iv 1, iv c0_, iv c1_, iv c2_, iv c3_, rv cs, iv (oBi (¬ c0_ = (46 : Int32) ∧ ¬ c0_ = (32 : Int32) ∧ oPl c0_)), iv c0_, iv (oBi (oPl c0_))]) rfl kt) ?_
        rcases oLU1 c0_ with hl0 | hU
        · show oWk _ _ _ _ T (mkF m 227 #[iv p0, iv p1, iv p2, iv p3, iv p4, iv 1, iv c0_, iv c1_, iv c2_, iv c3_, rv cs, iv (oBi (¬ c0_ = (46 : Int32) ∧ ¬ c0_ = (32 : Int32) ∧ oPl c0_)), iv c0_, iv (oBi (oPl c0_))] [])
          obtain ⟨so, g11⟩ : ∃ z, z = h.size := ⟨_, rfl⟩
          have ne_cs_so : cs ≠ so := Nat.ne_of_lt (Nat.lt_of_lt_of_le V_cs.lt (Nat.le_of_eq g11.symm))
          have ge_so : h0.size ≤ so := Nat.le_trans K.le (Nat.le_of_eq g11.symm)
          have sf_so := B.new (Nat.le_of_eq g11.symm)
          obtain ⟨T, h, X, e0, E11, A11, D11, -, st⟩ := newO X hx hZ hown (oW hw 3 rfl) (oW hw 4 rfl) (oW hw 5 rfl) e0 (g := (mkF m 227 #[iv p0, iv p1, iv p2, iv p3, iv p4, iv 1, iv c0_, iv c1_, iv c2_, iv c3_, rv cs, iv (oBi (¬ c0_ = (46 : Int32) ∧ ¬ c0_ = (32 : Int32) ∧ oPl c0_)), iv c0_, iv (oBi (oPl c0_))] [])) rfl (hb hby at_227) (by decide) (by decide)
          rw [← g11] at A11 D11 st
          have K := K.ext E11
          have sf_cs := Safe.ext E11 B.2.1 sf_cs
          have sf_so := Safe.ext E11 B.2.1 sf_so
          have B := B.ext E11
          have E_so := A11
          have F_value_so : Fld Z h so Y0 "value" "[B" .null := D11 (Or.inr (oW hw 18 rfl)) (ty := (.array .byte)) (by decide)
          have F_coder_so : Fld Z h so Y0 "coder" "B" (.int (0 : Int32)) := D11 (Or.inr (oW hw 19 rfl)) (ty := .byte) (by decide)
          refine oWk.st (fun _ kt => st _ (zD X hx hby at_230 rfl rfl rfl (zB X hx hby at_231 rfl rfl rfl kt))) ?_
          have V_cs := (V_cs.ext E11)
          have lt_cs := V_cs.lt
          have lt_so := E_so.lt
          have Oh := K.old O0 all0
          obtain ⟨_, T, h, Lc13, X, e0, hQ, st⟩ := (cs25 hw).run X hx hZ hown e0 (A := [(.ref so), (.ref cs)]) ⟨rfl, _, _, rfl⟩ (rI1_1 l Z a0 hw [] so cs k7 xz .null (.int (0 : Int32)) c0_ h Oh S_COMPACT_STRINGS hz (Nat.le_trans O0.1 ge_so) E_so F_value_so F_coder_so V_cs hl0) (W := 1) (by decide) hml (Ls := #[iv p0, iv p1, iv p2, iv p3, iv p4, iv 1, iv c0_, iv c1_, iv c2_, iv c3_, rv cs, iv (oBi (¬ c0_ = (46 : Int32) ∧ ¬ c0_ = (32 : Int32) ∧ oPl c0_)), iv c0_, iv (oBi (oPl c0_))]) rfl (rest := [(.ref so)]) rfl rfl hby at_233
          obtain ⟨sob, sobk, rfl, K12, E_so, F_coder_so, F_value_so, gn_sob, V_sob⟩ := hQ
          have ge_sob := Nat.le_trans K.le gn_sob
          have ne_cs_sob : cs ≠ sob := Nat.ne_of_lt (Nat.lt_of_lt_of_le lt_cs gn_sob)
          have ne_so_sob : so ≠ sob := Nat.ne_of_lt (Nat.lt_of_lt_of_le lt_so gn_sob)
          have K := K.call K12 (allS (Or.inr ge_so) all0)
          have sw : ∀ x ∈ ([so] : List Addr), Safe Z oEL _ _ x := (sfS sf_so sf0)
          have sf_cs := Safe.keep K12.1 sw B.2.1 sf_cs
          have sf_so := Safe.keep K12.1 sw B.2.1 sf_so
          have B := B.keep K12.1 sw
          refine oWk.st (fun _ kt => st _ kt) ?_
          have Oh := K.old O0 all0
          obtain ⟨T, L15, X, e0, K, st⟩ := (cs23 hw).pure X hx hZ hown e0 K (A := [(.ref so)]) rfl (rSSL_1 l Z a0 hw [] so sob sobk xfm xz c0_ h Oh S_COMPACT_STRINGS hz S_SIOOBE_FORMATTER hcat E_so F_coder_so F_value_so V_sob (oLt256 r_c0_ hl0)) (fun _ _ _ q => q) (W := 0) (by decide) hml (Ls := #[iv p0, iv p1, iv p2, iv p3, iv p4, iv 1, iv c0_, iv c1_, iv c2_, iv c3_, rv cs, iv (oBi (¬ c0_ = (46 : Int32) ∧ ¬ c0_ = (32 : Int32) ∧ oPl c0_)), iv c0_, iv (oBi (oPl c0_))]) rfl (rest := []) rfl rfl hby at_236
          refine oWk.to (mkF m 249 #[iv p0, iv p1, iv p2, iv p3, iv p4, iv 1, iv c0_, iv c1_, iv c2_, iv c3_, rv cs, iv (oBi (¬ c0_ = (46 : Int32) ∧ ¬ c0_ = (32 : Int32) ∧ oPl c0_)), iv c0_, iv (oBi (oPl c0_))] [(.int 1)]) (fun _ kt => st _ (zJ X hx hby at_239 rfl rfl (zN X hx hby at_241 rfl rfl (teq rfl).2 (zK X hx hby at_244 rfl (zG X hx hby at_245 rfl (pc' := 249) rfl kt))))) ?_
          exact oRetH X hx hlk hZ (oELw hw) e0 B hret (oNar01 (Or.inr rfl)) (Or.inl ⟨rfl, Or.inr (Or.inl rfl), _, rfl⟩) (hb hby at_249) (by rw [e0]; exact ⟨rfl, K.fr⟩) (by decide) (by decide)
        · show oWk _ _ _ _ T (mkF m 227 #[iv p0, iv p1, iv p2, iv p3, iv p4, iv 1, iv c0_, iv c1_, iv c2_, iv c3_, rv cs, iv (oBi (¬ c0_ = (46 : Int32) ∧ ¬ c0_ = (32 : Int32) ∧ oPl c0_)), iv c0_, iv (oBi (oPl c0_))] [])
          obtain ⟨so, g16⟩ : ∃ z, z = h.size := ⟨_, rfl⟩
          have ne_cs_so : cs ≠ so := Nat.ne_of_lt (Nat.lt_of_lt_of_le V_cs.lt (Nat.le_of_eq g16.symm))
          have ge_so : h0.size ≤ so := Nat.le_trans K.le (Nat.le_of_eq g16.symm)
          have sf_so := B.new (Nat.le_of_eq g16.symm)
          obtain ⟨T, h, X, e0, E16, A16, D16, -, st⟩ := newO X hx hZ hown (oW hw 3 rfl) (oW hw 4 rfl) (oW hw 5 rfl) e0 (g := (mkF m 227 #[iv p0, iv p1, iv p2, iv p3, iv p4, iv 1, iv c0_, iv c1_, iv c2_, iv c3_, rv cs, iv (oBi (¬ c0_ = (46 : Int32) ∧ ¬ c0_ = (32 : Int32) ∧ oPl c0_)), iv c0_, iv (oBi (oPl c0_))] [])) rfl (hb hby at_227) (by decide) (by decide)
          rw [← g16] at A16 D16 st
          have K := K.ext E16
          have sf_cs := Safe.ext E16 B.2.1 sf_cs
          have sf_so := Safe.ext E16 B.2.1 sf_so
          have B := B.ext E16
          have E_so := A16
          have F_value_so : Fld Z h so Y0 "value" "[B" .null := D16 (Or.inr (oW hw 18 rfl)) (ty := (.array .byte)) (by decide)
          have F_coder_so : Fld Z h so Y0 "coder" "B" (.int (0 : Int32)) := D16 (Or.inr (oW hw 19 rfl)) (ty := .byte) (by decide)
          refine oWk.st (fun _ kt => st _ (zD X hx hby at_230 rfl rfl rfl (zB X hx hby at_231 rfl rfl rfl kt))) ?_
          have V_cs := (V_cs.ext E16)
          have lt_cs := V_cs.lt
          have lt_so := E_so.lt
          have Oh := K.old O0 all0
          obtain ⟨_, T, h, Lc18, X, e0, hQ, st⟩ := (cs25 hw).run X hx hZ hown e0 (A := [(.ref so), (.ref cs)]) ⟨rfl, _, _, rfl⟩ (rI1U_1 l Z a0 hw [] so cs k7 xz .null (.int (0 : Int32)) c0_ h Oh S_COMPACT_STRINGS hz S__assertionsDisabled S_HI_BYTE_SHIFT S_LO_BYTE_SHIFT (Nat.le_trans O0.1 ge_so) E_so F_value_so F_coder_so V_cs r_c0_ hU) (W := 1) (by decide) hml (Ls := #[iv p0, iv p1, iv p2, iv p3, iv p4, iv 1, iv c0_, iv c1_, iv c2_, iv c3_, rv cs, iv (oBi (¬ c0_ = (46 : Int32) ∧ ¬ c0_ = (32 : Int32) ∧ oPl c0_)), iv c0_, iv (oBi (oPl c0_))]) rfl (rest := [(.ref so)]) rfl rfl hby at_233
          obtain ⟨sob, sobk, rfl, K17, E_so, F_coder_so, F_value_so, gn_sob, V_sob⟩ := hQ
          have ge_sob := Nat.le_trans K.le gn_sob
          have ne_cs_sob : cs ≠ sob := Nat.ne_of_lt (Nat.lt_of_lt_of_le lt_cs gn_sob)
          have ne_so_sob : so ≠ sob := Nat.ne_of_lt (Nat.lt_of_lt_of_le lt_so gn_sob)
          have K := K.call K17 (allS (Or.inr ge_so) all0)
          have sw : ∀ x ∈ ([so] : List Addr), Safe Z oEL _ _ x := (sfS sf_so sf0)
          have sf_cs := Safe.keep K17.1 sw B.2.1 sf_cs
          have sf_so := Safe.keep K17.1 sw B.2.1 sf_so
          have B := B.keep K17.1 sw
          refine oWk.st (fun _ kt => st _ kt) ?_
          have Oh := K.old O0 all0
          obtain ⟨T, L20, X, e0, K, st⟩ := (cs23 hw).pure X hx hZ hown e0 K (A := [(.ref so)]) rfl (rSSU_1 l Z a0 hw [] so sob sobk xfm xz c0_ h Oh S_COMPACT_STRINGS hz S__assertionsDisabled S_HI_BYTE_SHIFT S_LO_BYTE_SHIFT S_SIOOBE_FORMATTER hcat E_so F_coder_so F_value_so V_sob r_c0_) (fun _ _ _ q => q) (W := 0) (by decide) hml (Ls := #[iv p0, iv p1, iv p2, iv p3, iv p4, iv 1, iv c0_, iv c1_, iv c2_, iv c3_, rv cs, iv (oBi (¬ c0_ = (46 : Int32) ∧ ¬ c0_ = (32 : Int32) ∧ oPl c0_)), iv c0_, iv (oBi (oPl c0_))]) rfl (rest := []) rfl rfl hby at_236
          refine oWk.to (mkF m 249 #[iv p0, iv p1, iv p2, iv p3, iv p4, iv 1, iv c0_, iv c1_, iv c2_, iv c3_, rv cs, iv (oBi (¬ c0_ = (46 : Int32) ∧ ¬ c0_ = (32 : Int32) ∧ oPl c0_)), iv c0_, iv (oBi (oPl c0_))] [(.int 1)]) (fun _ kt => st _ (zJ X hx hby at_239 rfl rfl (zN X hx hby at_241 rfl rfl (teq rfl).2 (zK X hx hby at_244 rfl (zG X hx hby at_245 rfl (pc' := 249) rfl kt))))) ?_
          exact oRetH X hx hlk hZ (oELw hw) e0 B hret (oNar01 (Or.inr rfl)) (Or.inl ⟨rfl, Or.inr (Or.inl rfl), _, rfl⟩) (hb hby at_249) (by rw [e0]; exact ⟨rfl, K.fr⟩) (by decide) (by decide)
      by_cases hc205 : c0_ = (46 : Int32)
      · refine oWk.to (mkF m 224 #[iv p0, iv p1, iv p2, iv p3, iv p4, iv 1, iv c0_, iv c1_, iv c2_, iv c3_, rv cs, uu, iv c0_, iv (oBi (oPl c0_))] []) (fun _ kt => zY X hx hby at_205 rfl rfl (teq hc205).1 (pc' := 224) rfl kt) ?_
        refine oWk.to (mkF m 225 #[iv p0, iv p1, iv p2, iv p3, iv p4, iv 1, iv c0_, iv c1_, iv c2_, iv c3_, rv cs, uu, iv c0_, iv (oBi (oPl c0_))] [(.int 0)]) (fun _ kt => zK X hx hby at_224 rfl kt) ?_
        exact J225 _ (oBi_f (fun q => q.1 hc205)).symm
      · refine oWk.to (mkF m 208 #[iv p0, iv p1, iv p2, iv p3, iv p4, iv 1, iv c0_, iv c1_, iv c2_, iv c3_, rv cs, uu, iv c0_, iv (oBi (oPl c0_))] []) (fun _ kt => zN X hx hby at_205 rfl rfl (feq hc205).1 kt) ?_
        refine oWk.to (mkF m 212 #[iv p0, iv p1, iv p2, iv p3, iv p4, iv 1, iv c0_, iv c1_, iv c2_, iv c3_, rv cs, uu, iv c0_, iv (oBi (oPl c0_))] [(.int 32), (.int c0_)]) (fun _ kt => zJ X hx hby at_208 rfl rfl (zL X hx hby at_210 rfl kt)) ?_
        by_cases hc212 : c0_ = (32 : Int32)
        · refine oWk.to (mkF m 224 #[iv p0, iv p1, iv p2, iv p3, iv p4, iv 1, iv c0_, iv c1_, iv c2_, iv c3_, rv cs, uu, iv c0_, iv (oBi (oPl c0_))] []) (fun _ kt => zY X hx hby at_212 rfl rfl (teq hc212).1 (pc' := 224) rfl kt) ?_
          refine oWk.to (mkF m 225 #[iv p0, iv p1, iv p2, iv p3, iv p4, iv 1, iv c0_, iv c1_, iv c2_, iv c3_, rv cs, uu, iv c0_, iv (oBi (oPl c0_))] [(.int 0)]) (fun _ kt => zK X hx hby at_224 rfl kt) ?_
          exact J225 _ (oBi_f (fun q => q.2.1 hc212)).symm
        · refine oWk.to (mkF m 215 #[iv p0, iv p1, iv p2, iv p3, iv p4, iv 1, iv c0_, iv c1_, iv c2_, iv c3_, rv cs, uu, iv c0_, iv (oBi (oPl c0_))] []) (fun _ kt => zN X hx hby at_212 rfl rfl (feq hc212).1 kt) ?_
          refine oWk.to (mkF m 217 #[iv p0, iv p1, iv p2, iv p3, iv p4, iv 1, iv c0_, iv c1_, iv c2_, iv c3_, rv cs, uu, iv c0_, iv (oBi (oPl c0_))] [(.int (oBi (oPl c0_)))]) (fun _ kt => zJ X hx hby at_215 rfl rfl kt) ?_
          by_cases hc217 : oPl c0_
          · refine oWk.to (mkF m 220 #[iv p0, iv p1, iv p2, iv p3, iv p4, iv 1, iv c0_, iv c1_, iv c2_, iv c3_, rv cs, uu, iv c0_, iv (oBi (oPl c0_))] []) (fun _ kt => zH X hx hby at_217 rfl rfl ((if0 _ _).trans (feq (oBi_ne hc217)).1) kt) ?_
            refine oWk.to (mkF m 225 #[iv p0, iv p1, iv p2, iv p3, iv p4, iv 1, iv c0_, iv c1_, iv c2_, iv c3_, rv cs, uu, iv c0_, iv (oBi (oPl c0_))] [(.int 1)]) (fun _ kt => zK X hx hby at_220 rfl (zG X hx hby at_221 rfl (pc' := 225) rfl kt)) ?_
            exact J225 _ (oBi_t ⟨hc205, hc212, hc217⟩).symm
          · refine oWk.to (mkF m 224 #[iv p0, iv p1, iv p2, iv p3, iv p4, iv 1, iv c0_, iv c1_, iv c2_, iv c3_, rv cs, uu, iv c0_, iv (oBi (oPl c0_))] []) (fun _ kt => zF X hx hby at_217 rfl rfl ((if0 _ _).trans (teq (oBi_f hc217)).1) (pc' := 224) rfl kt) ?_
            refine oWk.to (mkF m 225 #[iv p0, iv p1, iv p2, iv p3, iv p4, iv 1, iv c0_, iv c1_, iv c2_, iv c3_, rv cs, uu, iv c0_, iv (oBi (oPl c0_))] [(.int 0)]) (fun _ kt => zK X hx hby at_224 rfl kt) ?_
            exact J225 _ (oBi_f (fun q => hc217 q.2.2)).symm
    by_cases hc149 : oPl c0_
    · refine oWk.to (mkF m 152 #[iv p0, iv p1, iv p2, iv p3, iv p4, iv 1, iv c0_, iv c1_, iv c2_, iv c3_, rv cs, uu, iv c0_, uu] []) (fun _ kt => zH X hx hby at_149 rfl rfl ((if0 _ _).trans (feq (oBi_ne hc149)).1) kt) ?_
      refine oWk.to (mkF m 182 #[iv p0, iv p1, iv p2, iv p3, iv p4, iv 1, iv c0_, iv c1_, iv c2_, iv c3_, rv cs, uu, iv c0_, uu] [(.int 1)]) (fun _ kt => zJ X hx hby at_152 rfl rfl (zK X hx hby at_154 rfl (zY X hx hby at_155 rfl rfl (tlt (by decide)).1 (pc' := 166) rfl (zJ X hx hby at_166 rfl rfl (zK X hx hby at_168 rfl (zY X hx hby at_169 rfl rfl (tlt (by decide)).1 (pc' := 180) rfl (zJ X hx hby at_180 rfl rfl kt))))))) ?_
      refine oWk.to (mkF m 199 #[iv p0, iv p1, iv p2, iv p3, iv p4, iv 1, iv c0_, iv c1_, iv c2_, iv c3_, rv cs, uu, iv c0_, uu] [(.int 1)]) (fun _ kt => zK X hx hby at_182 rfl (zY X hx hby at_183 rfl rfl (tlt (by decide)).1 (pc' := 194) rfl (zK X hx hby at_194 rfl (zG X hx hby at_195 rfl (pc' := 199) rfl kt)))) ?_
      exact J199 _ (oBi_t hc149).symm T _ X e0 K
    · refine oWk.to (mkF m 198 #[iv p0, iv p1, iv p2, iv p3, iv p4, iv 1, iv c0_, iv c1_, iv c2_, iv c3_, rv cs, uu, iv c0_, uu] []) (fun _ kt => zF X hx hby at_149 rfl rfl ((if0 _ _).trans (teq (oBi_f hc149)).1) (pc' := 198) rfl kt) ?_
      refine oWk.to (mkF m 199 #[iv p0, iv p1, iv p2, iv p3, iv p4, iv 1, iv c0_, iv c1_, iv c2_, iv c3_, rv cs, uu, iv c0_, uu] [(.int 0)]) (fun _ kt => zK X hx hby at_198 rfl kt) ?_
      exact J199 _ (oBi_f (fun q => hc149 q)).symm T _ X e0 K
  · show oWk _ _ _ _ T (mkF m 37 #[iv p0, iv p1, iv p2, iv p3, iv p4, iv 2, iv c0_, iv c1_, iv c2_, iv c3_, uu, uu, uu, uu] [])
    refine oWk.st (fun _ kt => zJ X hx hby at_37 rfl rfl kt) ?_
    obtain ⟨cs, g21⟩ : ∃ z, z = h0.size := ⟨_, rfl⟩
    have ge_cs : h0.size ≤ cs := Nat.le_trans K.le (Nat.le_of_eq g21.symm)
    have sf_cs := B.new (Nat.le_of_eq g21.symm)
    obtain ⟨T, h, k21, X, e0, E21, A21, st⟩ := newP X hx hZ (oW hw 2 rfl) e0 (g := (mkF m 39 #[iv p0, iv p1, iv p2, iv p3, iv p4, iv 2, iv c0_, iv c1_, iv c2_, iv c3_, uu, uu, uu, uu] [(.int 2)])) rfl (hb hby at_39) rfl (by decide) (cap := 2) (by decide) (by decide) (by decide) (by decide)
    rw [← g21] at A21 st
    have K := K.ext E21
    have sf_cs := Safe.ext E21 B.2.1 sf_cs
    have B := B.ext E21
    have V_cs : Arv Z h cs k21 .char (2 : Int32) [(.int (0 : Int32)), (.int (0 : Int32))] (.int (0 : Int32)) := (Arv.new A21 (by decide)).pad (pad_rep [] (.int (0 : Int32)) 2)
    refine oWk.to (mkF m 53 #[iv p0, iv p1, iv p2, iv p3, iv p4, iv 2, iv c0_, iv c1_, iv c2_, iv c3_, rv cs, uu, uu, uu] [(.int c0_), (.int 0), (.ref cs)]) (fun _ kt => st _ (zT X hx hby at_41 rfl rfl rfl (l' := #[iv p0, iv p1, iv p2, iv p3, iv p4, iv 2, iv c0_, iv c1_, iv c2_, iv c3_, rv cs, uu, uu, uu]) rfl (zJ X hx hby at_43 rfl rfl (zH X hx hby at_45 rfl rfl ((if0 _ _).trans (tlt (by decide)).2.2.2) (zB X hx hby at_48 rfl rfl rfl (zK X hx hby at_50 rfl (zJ X hx hby at_51 rfl rfl kt))))))) ?_
    obtain ⟨cl22, Ar22, q22, Sz22, Nn22, Hs22, Ft22⟩ := id V_cs
    have hin22 : ¬ ((0 : Int32) < 0 ∨ cl22.slots.size ≤ ((0 : Int32)).toNatClampNeg) := inb_of Sz22 ⟨by decide, by decide⟩
    obtain ⟨T, h, X, e0, W22, st⟩ := stC X hx hZ e0 Ar22 (j := (0 : Int32)) hin22 (g := (mkF m 53 #[iv p0, iv p1, iv p2, iv p3, iv p4, iv 2, iv c0_, iv c1_, iv c2_, iv c3_, rv cs, uu, uu, uu] [(.int c0_), (.int 0), (.ref cs)])) rfl rfl (hb hby at_53)
    have K := K.wr W22 (Or.inr ge_cs)
    have sw : Safe Z oEL _ _ cs := sf_cs
    have sf_cs := Safe.wr W22 sw B.2.1 sf_cs
    have B := B.wr W22 sw
    have V_cs := Arv.set Ar22 q22 Sz22 Nn22 Hs22 Ft22 (fits_nar_char _) W22 0 rfl (Nat.le_of_ble_eq_true rfl)
    rw [show nar .char c0_ = c0_ from oChrU r_c0_] at V_cs
    replace V_cs : Arv Z h cs k21 .char (2 : Int32) [(.int c0_), (.int (0 : Int32))] (.int (0 : Int32)) := V_cs
    refine oWk.to (mkF m 65 #[iv p0, iv p1, iv p2, iv p3, iv p4, iv 2, iv c0_, iv c1_, iv c2_, iv c3_, rv cs, uu, uu, uu] [(.int c1_), (.int 1), (.ref cs)]) (fun _ kt => st _ (zJ X hx hby at_54 rfl rfl (zK X hx hby at_56 rfl (zN X hx hby at_57 rfl rfl (tlt (by decide)).2.2.2 (zB X hx hby at_60 rfl rfl rfl (zK X hx hby at_62 rfl (zJ X hx hby at_63 rfl rfl kt))))))) ?_
    obtain ⟨cl23, Ar23, q23, Sz23, Nn23, Hs23, Ft23⟩ := id V_cs
    have hin23 : ¬ ((1 : Int32) < 0 ∨ cl23.slots.size ≤ ((1 : Int32)).toNatClampNeg) := inb_of Sz23 ⟨by decide, by decide⟩
    obtain ⟨T, h, X, e0, W23, st⟩ := stC X hx hZ e0 Ar23 (j := (1 : Int32)) hin23 (g := (mkF m 65 #[iv p0, iv p1, iv p2, iv p3, iv p4, iv 2, iv c0_, iv c1_, iv c2_, iv c3_, rv cs, uu, uu, uu] [(.int c1_), (.int 1), (.ref cs)])) rfl rfl (hb hby at_65)
    have K := K.wr W23 (Or.inr ge_cs)
    have sw : Safe Z oEL _ _ cs := sf_cs
    have sf_cs := Safe.wr W23 sw B.2.1 sf_cs
    have B := B.wr W23 sw
    have V_cs := Arv.set Ar23 q23 Sz23 Nn23 Hs23 Ft23 (fits_nar_char _) W23 1 rfl (Nat.le_of_ble_eq_true rfl)
    rw [show nar .char c1_ = c1_ from oChrU r_c1_] at V_cs
    replace V_cs : Arv Z h cs k21 .char (2 : Int32) [(.int c0_), (.int c1_)] (.int (0 : Int32)) := V_cs
    refine oWk.to (mkF m 90 #[iv p0, iv p1, iv p2, iv p3, iv p4, iv 2, iv c0_, iv c1_, iv c2_, iv c3_, rv cs, uu, uu, uu] []) (fun _ kt => st _ (zJ X hx hby at_66 rfl rfl (zK X hx hby at_68 rfl (zY X hx hby at_69 rfl rfl (flt (by decide)).2.2.2 (pc' := 78) rfl (zJ X hx hby at_78 rfl rfl (zK X hx hby at_80 rfl (zY X hx hby at_81 rfl rfl (flt (by decide)).2.2.2 (pc' := 90) rfl kt))))))) ?_
    refine oWk.to (mkF m 117 #[iv p0, iv p1, iv p2, iv p3, iv p4, iv 2, iv c0_, iv c1_, iv c2_, iv c3_, rv cs, uu, uu, uu] [(.int 2), (.int 2)]) (fun _ kt => zJ X hx hby at_90 rfl rfl (zF X hx hby at_92 rfl rfl ((if0 _ _).trans (feq (by decide)).2) (pc' := 101) rfl (zJ X hx hby at_101 rfl rfl (zK X hx hby at_103 rfl (zY X hx hby at_104 rfl rfl (feq (by decide)).2 (pc' := 114) rfl (zJ X hx hby at_114 rfl rfl (zK X hx hby at_116 rfl kt))))))) ?_
    refine oWk.st (fun _ kt => zN X hx hby at_117 rfl rfl (teq (by decide)).2 (zJ X hx hby at_120 rfl rfl (zS X hx hby at_122 rfl rfl (l' := #[iv p0, iv p1, iv p2, iv p3, iv p4, iv 2, iv c0_, iv c1_, iv c2_, iv c3_, rv cs, uu, iv c1_, uu]) rfl (zG X hx hby at_124 rfl (pc' := 144) rfl (zJ X hx hby at_144 rfl rfl kt))))) ?_
    have Oh := K.old O0 all0
    obtain ⟨T, L25, X, e0, K, st⟩ := (cs24 hw).pure X hx hZ hown e0 K (A := [(.int c0_)]) rfl (rPl l Z a0 hw [] c0_ h Oh ) (fun _ _ _ q => q) (W := 0) (by decide) hml (Ls := #[iv p0, iv p1, iv p2, iv p3, iv p4, iv 2, iv c0_, iv c1_, iv c2_, iv c3_, rv cs, uu, iv c1_, uu]) rfl (rest := []) rfl rfl hby at_146
    refine oWk.to (mkF m 149 #[iv p0, iv p1, iv p2, iv p3, iv p4, iv 2, iv c0_, iv c1_, iv c2_, iv c3_, rv cs, uu, iv c1_, uu] [(.int (oBi (oPl c0_)))]) (fun _ kt => st _ kt) ?_
    have J199 : ∀ (ao : Int32), ao = oBi (oPl c0_ ∧ oPl c1_) → ∀ (T' : State) (L' : List Loc), oStd X T' L' → T'.heap = h → oKp h0 h [] L' → oWk p.tables e below (oDnH Z oEL s h0 below (Q_rLaw Z p0 p1 p2 p3 p4 xfm xz h0) room_1.cells room_1.slots) T' (mkF m 199 #[iv p0, iv p1, iv p2, iv p3, iv p4, iv 2, iv c0_, iv c1_, iv c2_, iv c3_, rv cs, uu, iv c1_, uu] [(.int ao)]) := by
      intro ao hao T LJ X e0 K
      have X : Stand p l e _ _ m _ below meth c T LJ _ _ := X
      subst hao
      show oWk _ _ _ _ T (mkF m 199 #[iv p0, iv p1, iv p2, iv p3, iv p4, iv 2, iv c0_, iv c1_, iv c2_, iv c3_, rv cs, uu, iv c1_, uu] [(.int (oBi (oPl c0_ ∧ oPl c1_)))])
      refine oWk.to (mkF m 205 #[iv p0, iv p1, iv p2, iv p3, iv p4, iv 2, iv c0_, iv c1_, iv c2_, iv c3_, rv cs, uu, iv c1_, iv (oBi (oPl c0_ ∧ oPl c1_))] [(.int 46), (.int c1_)]) (fun _ kt => zS X hx hby at_199 rfl rfl (l' := #[iv p0, iv p1, iv p2, iv p3, iv p4, iv 2, iv c0_, iv c1_, iv c2_, iv c3_, rv cs, uu, iv c1_, iv (oBi (oPl c0_ ∧ oPl c1_))]) rfl (zJ X hx hby at_201 rfl rfl (zL X hx hby at_203 rfl kt))) ?_
      have J225 : ∀ (ex : Int32), ex = oBi (¬ c1_ = (46 : Int32) ∧ ¬ c1_ = (32 : Int32) ∧ oPl c0_ ∧ oPl c1_) → oWk p.tables e below (oDnH Z oEL s h0 below (Q_rLaw Z p0 p1 p2 p3 p4 xfm xz h0) room_1.cells room_1.slots) T (mkF m 225 #[iv p0, iv p1, iv p2, iv p3, iv p4, iv 2, iv c0_, iv c1_, iv c2_, iv c3_, rv cs, uu, iv c1_, iv (oBi (oPl c0_ ∧ oPl c1_))] [(.int ex)]) := by
        intro ex hex
        subst hex
        show oWk _ _ _ _ T (mkF m 225 #[iv p0, iv p1, iv p2, iv p3, iv p4, iv 2, iv c0_, iv c1_, iv c2_, iv c3_, rv cs, uu, iv c1_, iv (oBi (oPl c0_ ∧ oPl c1_))] [(.int (oBi (¬ c1_ = (46 : Int32) ∧ ¬ c1_ = (32 : Int32) ∧ oPl c0_ ∧ oPl c1_)))])
        refine oWk.to (mkF m 227 #[iv p0, iv p1, iv p2, iv p3, iv p4, iv 2, iv c0_, iv c1_, iv c2_, iv c3_, rv cs, iv (oBi (¬ c1_ = (46 : Int32) ∧ ¬ c1_ = (32 : Int32) ∧ oPl c0_ ∧ oPl c1_)), iv c1_, iv (oBi (oPl c0_ ∧ oPl c1_))] []) (fun _ kt => zS X hx hby at_225 rfl rfl (l' := #[iv p0, iv p1, iv p2, iv p3, iv p4, iv 2, iv c0_, iv c1_, iv c2_, iv c3_, rv cs, iv (oBi (¬ c1_ = (46 : Int32) ∧ ¬ c1_ = (32 : Int32) ∧ oPl c0_ ∧ oPl c1_)), iv c1_, iv (oBi (oPl c0_ ∧ oPl c1_))]) rfl kt) ?_
        rcases oLU2 c0_ c1_ with ⟨hl0, hl1⟩ | hU
        · show oWk _ _ _ _ T (mkF m 227 #[iv p0, iv p1, iv p2, iv p3, iv p4, iv 2, iv c0_, iv c1_, iv c2_, iv c3_, rv cs, iv (oBi (¬ c1_ = (46 : Int32) ∧ ¬ c1_ = (32 : Int32) ∧ oPl c0_ ∧ oPl c1_)), iv c1_, iv (oBi (oPl c0_ ∧ oPl c1_))] [])
          obtain ⟨so, g26⟩ : ∃ z, z = h.size := ⟨_, rfl⟩
          have ne_cs_so : cs ≠ so := Nat.ne_of_lt (Nat.lt_of_lt_of_le V_cs.lt (Nat.le_of_eq g26.symm))
          have ge_so : h0.size ≤ so := Nat.le_trans K.le (Nat.le_of_eq g26.symm)
          have sf_so := B.new (Nat.le_of_eq g26.symm)
          obtain ⟨T, h, X, e0, E26, A26, D26, -, st⟩ := newO X hx hZ hown (oW hw 3 rfl) (oW hw 4 rfl) (oW hw 5 rfl) e0 (g := (mkF m 227 #[iv p0, iv p1, iv p2, iv p3, iv p4, iv 2, iv c0_, iv c1_, iv c2_, iv c3_, rv cs, iv (oBi (¬ c1_ = (46 : Int32) ∧ ¬ c1_ = (32 : Int32) ∧ oPl c0_ ∧ oPl c1_)), iv c1_, iv (oBi (oPl c0_ ∧ oPl c1_))] [])) rfl (hb hby at_227) (by decide) (by decide)
          rw [← g26] at A26 D26 st
          have K := K.ext E26
          have sf_cs := Safe.ext E26 B.2.1 sf_cs
          have sf_so := Safe.ext E26 B.2.1 sf_so
          have B := B.ext E26
          have E_so := A26
          have F_value_so : Fld Z h so Y0 "value" "[B" .null := D26 (Or.inr (oW hw 18 rfl)) (ty := (.array .byte)) (by decide)
          have F_coder_so : Fld Z h so Y0 "coder" "B" (.int (0 : Int32)) := D26 (Or.inr (oW hw 19 rfl)) (ty := .byte) (by decide)
          refine oWk.st (fun _ kt => st _ (zD X hx hby at_230 rfl rfl rfl (zB X hx hby at_231 rfl rfl rfl kt))) ?_
          have V_cs := (V_cs.ext E26)
          have lt_cs := V_cs.lt
          have lt_so := E_so.lt
          have Oh := K.old O0 all0
          obtain ⟨_, T, h, Lc28, X, e0, hQ, st⟩ := (cs25 hw).run X hx hZ hown e0 (A := [(.ref so), (.ref cs)]) ⟨rfl, _, _, rfl⟩ (rI1_2 l Z a0 hw [] so cs k21 xz .null (.int (0 : Int32)) c0_ c1_ h Oh S_COMPACT_STRINGS hz (Nat.le_trans O0.1 ge_so) E_so F_value_so F_coder_so V_cs hl0 hl1) (W := 1) (by decide) hml (Ls := #[iv p0, iv p1, iv p2, iv p3, iv p4, iv 2, iv c0_, iv c1_, iv c2_, iv c3_, rv cs, iv (oBi (¬ c1_ = (46 : Int32) ∧ ¬ c1_ = (32 : Int32) ∧ oPl c0_ ∧ oPl c1_)), iv c1_, iv (oBi (oPl c0_ ∧ oPl c1_))]) rfl (rest := [(.ref so)]) rfl rfl hby at_233
          obtain ⟨sob, sobk, rfl, K27, E_so, F_coder_so, F_value_so, gn_sob, V_sob⟩ := hQ
          have ge_sob := Nat.le_trans K.le gn_sob
          have ne_cs_sob : cs ≠ sob := Nat.ne_of_lt (Nat.lt_of_lt_of_le lt_cs gn_sob)
          have ne_so_sob : so ≠ sob := Nat.ne_of_lt (Nat.lt_of_lt_of_le lt_so gn_sob)
          have K := K.call K27 (allS (Or.inr ge_so) all0)
          have sw : ∀ x ∈ ([so] : List Addr), Safe Z oEL _ _ x := (sfS sf_so sf0)
          have sf_cs := Safe.keep K27.1 sw B.2.1 sf_cs
          have sf_so := Safe.keep K27.1 sw B.2.1 sf_so
          have B := B.keep K27.1 sw
          refine oWk.st (fun _ kt => st _ kt) ?_
          have Oh := K.old O0 all0
          obtain ⟨T, L30, X, e0, K, st⟩ := (cs23 hw).pure X hx hZ hown e0 K (A := [(.ref so)]) rfl (rSSL_2 l Z a0 hw [] so sob sobk xfm xz c0_ c1_ h Oh S_COMPACT_STRINGS hz S_SIOOBE_FORMATTER hcat E_so F_coder_so F_value_so V_sob (oLt256 r_c0_ hl0) (oLt256 r_c1_ hl1)) (fun _ _ _ q => q) (W := 0) (by decide) hml (Ls := #[iv p0, iv p1, iv p2, iv p3, iv p4, iv 2, iv c0_, iv c1_, iv c2_, iv c3_, rv cs, iv (oBi (¬ c1_ = (46 : Int32) ∧ ¬ c1_ = (32 : Int32) ∧ oPl c0_ ∧ oPl c1_)), iv c1_, iv (oBi (oPl c0_ ∧ oPl c1_))]) rfl (rest := []) rfl rfl hby at_236
          refine oWk.to (mkF m 249 #[iv p0, iv p1, iv p2, iv p3, iv p4, iv 2, iv c0_, iv c1_, iv c2_, iv c3_, rv cs, iv (oBi (¬ c1_ = (46 : Int32) ∧ ¬ c1_ = (32 : Int32) ∧ oPl c0_ ∧ oPl c1_)), iv c1_, iv (oBi (oPl c0_ ∧ oPl c1_))] [(.int 1)]) (fun _ kt => st _ (zJ X hx hby at_239 rfl rfl (zN X hx hby at_241 rfl rfl (teq rfl).2 (zK X hx hby at_244 rfl (zG X hx hby at_245 rfl (pc' := 249) rfl kt))))) ?_
          exact oRetH X hx hlk hZ (oELw hw) e0 B hret (oNar01 (Or.inr rfl)) (Or.inl ⟨rfl, Or.inr (Or.inl rfl), _, rfl⟩) (hb hby at_249) (by rw [e0]; exact ⟨rfl, K.fr⟩) (by decide) (by decide)
        · show oWk _ _ _ _ T (mkF m 227 #[iv p0, iv p1, iv p2, iv p3, iv p4, iv 2, iv c0_, iv c1_, iv c2_, iv c3_, rv cs, iv (oBi (¬ c1_ = (46 : Int32) ∧ ¬ c1_ = (32 : Int32) ∧ oPl c0_ ∧ oPl c1_)), iv c1_, iv (oBi (oPl c0_ ∧ oPl c1_))] [])
          obtain ⟨so, g31⟩ : ∃ z, z = h.size := ⟨_, rfl⟩
          have ne_cs_so : cs ≠ so := Nat.ne_of_lt (Nat.lt_of_lt_of_le V_cs.lt (Nat.le_of_eq g31.symm))
          have ge_so : h0.size ≤ so := Nat.le_trans K.le (Nat.le_of_eq g31.symm)
          have sf_so := B.new (Nat.le_of_eq g31.symm)
          obtain ⟨T, h, X, e0, E31, A31, D31, -, st⟩ := newO X hx hZ hown (oW hw 3 rfl) (oW hw 4 rfl) (oW hw 5 rfl) e0 (g := (mkF m 227 #[iv p0, iv p1, iv p2, iv p3, iv p4, iv 2, iv c0_, iv c1_, iv c2_, iv c3_, rv cs, iv (oBi (¬ c1_ = (46 : Int32) ∧ ¬ c1_ = (32 : Int32) ∧ oPl c0_ ∧ oPl c1_)), iv c1_, iv (oBi (oPl c0_ ∧ oPl c1_))] [])) rfl (hb hby at_227) (by decide) (by decide)
          rw [← g31] at A31 D31 st
          have K := K.ext E31
          have sf_cs := Safe.ext E31 B.2.1 sf_cs
          have sf_so := Safe.ext E31 B.2.1 sf_so
          have B := B.ext E31
          have E_so := A31
          have F_value_so : Fld Z h so Y0 "value" "[B" .null := D31 (Or.inr (oW hw 18 rfl)) (ty := (.array .byte)) (by decide)
          have F_coder_so : Fld Z h so Y0 "coder" "B" (.int (0 : Int32)) := D31 (Or.inr (oW hw 19 rfl)) (ty := .byte) (by decide)
          refine oWk.st (fun _ kt => st _ (zD X hx hby at_230 rfl rfl rfl (zB X hx hby at_231 rfl rfl rfl kt))) ?_
          have V_cs := (V_cs.ext E31)
          have lt_cs := V_cs.lt
          have lt_so := E_so.lt
          have Oh := K.old O0 all0
          obtain ⟨_, T, h, Lc33, X, e0, hQ, st⟩ := (cs25 hw).run X hx hZ hown e0 (A := [(.ref so), (.ref cs)]) ⟨rfl, _, _, rfl⟩ (rI1U_2 l Z a0 hw [] so cs k21 xz .null (.int (0 : Int32)) c0_ c1_ h Oh S_COMPACT_STRINGS hz S__assertionsDisabled S_HI_BYTE_SHIFT S_LO_BYTE_SHIFT (Nat.le_trans O0.1 ge_so) E_so F_value_so F_coder_so V_cs r_c0_ r_c1_ hU) (W := 1) (by decide) hml (Ls := #[iv p0, iv p1, iv p2, iv p3, iv p4, iv 2, iv c0_, iv c1_, iv c2_, iv c3_, rv cs, iv (oBi (¬ c1_ = (46 : Int32) ∧ ¬ c1_ = (32 : Int32) ∧ oPl c0_ ∧ oPl c1_)), iv c1_, iv (oBi (oPl c0_ ∧ oPl c1_))]) rfl (rest := [(.ref so)]) rfl rfl hby at_233
          obtain ⟨sob, sobk, rfl, K32, E_so, F_coder_so, F_value_so, gn_sob, V_sob⟩ := hQ
          have ge_sob := Nat.le_trans K.le gn_sob
          have ne_cs_sob : cs ≠ sob := Nat.ne_of_lt (Nat.lt_of_lt_of_le lt_cs gn_sob)
          have ne_so_sob : so ≠ sob := Nat.ne_of_lt (Nat.lt_of_lt_of_le lt_so gn_sob)
          have K := K.call K32 (allS (Or.inr ge_so) all0)
          have sw : ∀ x ∈ ([so] : List Addr), Safe Z oEL _ _ x := (sfS sf_so sf0)
          have sf_cs := Safe.keep K32.1 sw B.2.1 sf_cs
          have sf_so := Safe.keep K32.1 sw B.2.1 sf_so
          have B := B.keep K32.1 sw
          refine oWk.st (fun _ kt => st _ kt) ?_
          have Oh := K.old O0 all0
          obtain ⟨T, L35, X, e0, K, st⟩ := (cs23 hw).pure X hx hZ hown e0 K (A := [(.ref so)]) rfl (rSSU_2 l Z a0 hw [] so sob sobk xfm xz c0_ c1_ h Oh S_COMPACT_STRINGS hz S__assertionsDisabled S_HI_BYTE_SHIFT S_LO_BYTE_SHIFT S_SIOOBE_FORMATTER hcat E_so F_coder_so F_value_so V_sob r_c0_ r_c1_) (fun _ _ _ q => q) (W := 0) (by decide) hml (Ls := #[iv p0, iv p1, iv p2, iv p3, iv p4, iv 2, iv c0_, iv c1_, iv c2_, iv c3_, rv cs, iv (oBi (¬ c1_ = (46 : Int32) ∧ ¬ c1_ = (32 : Int32) ∧ oPl c0_ ∧ oPl c1_)), iv c1_, iv (oBi (oPl c0_ ∧ oPl c1_))]) rfl (rest := []) rfl rfl hby at_236
          refine oWk.to (mkF m 249 #[iv p0, iv p1, iv p2, iv p3, iv p4, iv 2, iv c0_, iv c1_, iv c2_, iv c3_, rv cs, iv (oBi (¬ c1_ = (46 : Int32) ∧ ¬ c1_ = (32 : Int32) ∧ oPl c0_ ∧ oPl c1_)), iv c1_, iv (oBi (oPl c0_ ∧ oPl c1_))] [(.int 1)]) (fun _ kt => st _ (zJ X hx hby at_239 rfl rfl (zN X hx hby at_241 rfl rfl (teq rfl).2 (zK X hx hby at_244 rfl (zG X hx hby at_245 rfl (pc' := 249) rfl kt))))) ?_
          exact oRetH X hx hlk hZ (oELw hw) e0 B hret (oNar01 (Or.inr rfl)) (Or.inl ⟨rfl, Or.inr (Or.inl rfl), _, rfl⟩) (hb hby at_249) (by rw [e0]; exact ⟨rfl, K.fr⟩) (by decide) (by decide)
      by_cases hc205 : c1_ = (46 : Int32)
      · refine oWk.to (mkF m 224 #[iv p0, iv p1, iv p2, iv p3, iv p4, iv 2, iv c0_, iv c1_, iv c2_, iv c3_, rv cs, uu, iv c1_, iv (oBi (oPl c0_ ∧ oPl c1_))] []) (fun _ kt => zY X hx hby at_205 rfl rfl (teq hc205).1 (pc' := 224) rfl kt) ?_
        refine oWk.to (mkF m 225 #[iv p0, iv p1, iv p2, iv p3, iv p4, iv 2, iv c0_, iv c1_, iv c2_, iv c3_, rv cs, uu, iv c1_, iv (oBi (oPl c0_ ∧ oPl c1_))] [(.int 0)]) (fun _ kt => zK X hx hby at_224 rfl kt) ?_
        exact J225 _ (oBi_f (fun q => q.1 hc205)).symm
      · refine oWk.to (mkF m 208 #[iv p0, iv p1, iv p2, iv p3, iv p4, iv 2, iv c0_, iv c1_, iv c2_, iv c3_, rv cs, uu, iv c1_, iv (oBi (oPl c0_ ∧ oPl c1_))] []) (fun _ kt => zN X hx hby at_205 rfl rfl (feq hc205).1 kt) ?_
        refine oWk.to (mkF m 212 #[iv p0, iv p1, iv p2, iv p3, iv p4, iv 2, iv c0_, iv c1_, iv c2_, iv c3_, rv cs, uu, iv c1_, iv (oBi (oPl c0_ ∧ oPl c1_))] [(.int 32), (.int c1_)]) (fun _ kt => zJ X hx hby at_208 rfl rfl (zL X hx hby at_210 rfl kt)) ?_
        by_cases hc212 : c1_ = (32 : Int32)
        · refine oWk.to (mkF m 224 #[iv p0, iv p1, iv p2, iv p3, iv p4, iv 2, iv c0_, iv c1_, iv c2_, iv c3_, rv cs, uu, iv c1_, iv (oBi (oPl c0_ ∧ oPl c1_))] []) (fun _ kt => zY X hx hby at_212 rfl rfl (teq hc212).1 (pc' := 224) rfl kt) ?_
          refine oWk.to (mkF m 225 #[iv p0, iv p1, iv p2, iv p3, iv p4, iv 2, iv c0_, iv c1_, iv c2_, iv c3_, rv cs, uu, iv c1_, iv (oBi (oPl c0_ ∧ oPl c1_))] [(.int 0)]) (fun _ kt => zK X hx hby at_224 rfl kt) ?_
          exact J225 _ (oBi_f (fun q => q.2.1 hc212)).symm
        · refine oWk.to (mkF m 215 #[iv p0, iv p1, iv p2, iv p3, iv p4, iv 2, iv c0_, iv c1_, iv c2_, iv c3_, rv cs, uu, iv c1_, iv (oBi (oPl c0_ ∧ oPl c1_))] []) (fun _ kt => zN X hx hby at_212 rfl rfl (feq hc212).1 kt) ?_
          refine oWk.to (mkF m 217 #[iv p0, iv p1, iv p2, iv p3, iv p4, iv 2, iv c0_, iv c1_, iv c2_, iv c3_, rv cs, uu, iv c1_, iv (oBi (oPl c0_ ∧ oPl c1_))] [(.int (oBi (oPl c0_ ∧ oPl c1_)))]) (fun _ kt => zJ X hx hby at_215 rfl rfl kt) ?_
          by_cases hc217 : oPl c0_ ∧ oPl c1_
          · refine oWk.to (mkF m 220 #[iv p0, iv p1, iv p2, iv p3, iv p4, iv 2, iv c0_, iv c1_, iv c2_, iv c3_, rv cs, uu, iv c1_, iv (oBi (oPl c0_ ∧ oPl c1_))] []) (fun _ kt => zH X hx hby at_217 rfl rfl ((if0 _ _).trans (feq (oBi_ne hc217)).1) kt) ?_
            refine oWk.to (mkF m 225 #[iv p0, iv p1, iv p2, iv p3, iv p4, iv 2, iv c0_, iv c1_, iv c2_, iv c3_, rv cs, uu, iv c1_, iv (oBi (oPl c0_ ∧ oPl c1_))] [(.int 1)]) (fun _ kt => zK X hx hby at_220 rfl (zG X hx hby at_221 rfl (pc' := 225) rfl kt)) ?_
            exact J225 _ (oBi_t ⟨hc205, hc212, hc217⟩).symm
          · refine oWk.to (mkF m 224 #[iv p0, iv p1, iv p2, iv p3, iv p4, iv 2, iv c0_, iv c1_, iv c2_, iv c3_, rv cs, uu, iv c1_, iv (oBi (oPl c0_ ∧ oPl c1_))] []) (fun _ kt => zF X hx hby at_217 rfl rfl ((if0 _ _).trans (teq (oBi_f hc217)).1) (pc' := 224) rfl kt) ?_
            refine oWk.to (mkF m 225 #[iv p0, iv p1, iv p2, iv p3, iv p4, iv 2, iv c0_, iv c1_, iv c2_, iv c3_, rv cs, uu, iv c1_, iv (oBi (oPl c0_ ∧ oPl c1_))] [(.int 0)]) (fun _ kt => zK X hx hby at_224 rfl kt) ?_
            exact J225 _ (oBi_f (fun q => hc217 q.2.2)).symm
    by_cases hc149 : oPl c0_
    · refine oWk.to (mkF m 152 #[iv p0, iv p1, iv p2, iv p3, iv p4, iv 2, iv c0_, iv c1_, iv c2_, iv c3_, rv cs, uu, iv c1_, uu] []) (fun _ kt => zH X hx hby at_149 rfl rfl ((if0 _ _).trans (feq (oBi_ne hc149)).1) kt) ?_
      refine oWk.st (fun _ kt => zJ X hx hby at_152 rfl rfl (zK X hx hby at_154 rfl (zN X hx hby at_155 rfl rfl (flt (by decide)).1 (zJ X hx hby at_158 rfl rfl kt)))) ?_
      obtain ⟨T, L37, X, e0, K, st⟩ := (cs24 hw).pure X hx hZ hown e0 K (A := [(.int c1_)]) rfl (rPl l Z a0 hw [] c1_ h Oh ) (fun _ _ _ q => q) (W := 0) (by decide) hml (Ls := #[iv p0, iv p1, iv p2, iv p3, iv p4, iv 2, iv c0_, iv c1_, iv c2_, iv c3_, rv cs, uu, iv c1_, uu]) rfl (rest := []) rfl rfl hby at_160
      refine oWk.to (mkF m 163 #[iv p0, iv p1, iv p2, iv p3, iv p4, iv 2, iv c0_, iv c1_, iv c2_, iv c3_, rv cs, uu, iv c1_, uu] [(.int (oBi (oPl c1_)))]) (fun _ kt => st _ kt) ?_
      by_cases hc163 : oPl c1_
      · refine oWk.to (mkF m 166 #[iv p0, iv p1, iv p2, iv p3, iv p4, iv 2, iv c0_, iv c1_, iv c2_, iv c3_, rv cs, uu, iv c1_, uu] []) (fun _ kt => zH X hx hby at_163 rfl rfl ((if0 _ _).trans (feq (oBi_ne hc163)).1) kt) ?_
        refine oWk.to (mkF m 195 #[iv p0, iv p1, iv p2, iv p3, iv p4, iv 2, iv c0_, iv c1_, iv c2_, iv c3_, rv cs, uu, iv c1_, uu] [(.int 1)]) (fun _ kt => zJ X hx hby at_166 rfl rfl (zK X hx hby at_168 rfl (zY X hx hby at_169 rfl rfl (tlt (by decide)).1 (pc' := 180) rfl (zJ X hx hby at_180 rfl rfl (zK X hx hby at_182 rfl (zY X hx hby at_183 rfl rfl (tlt (by decide)).1 (pc' := 194) rfl (zK X hx hby at_194 rfl kt))))))) ?_
        refine oWk.to (mkF m 199 #[iv p0, iv p1, iv p2, iv p3, iv p4, iv 2, iv c0_, iv c1_, iv c2_, iv c3_, rv cs, uu, iv c1_, uu] [(.int 1)]) (fun _ kt => zG X hx hby at_195 rfl (pc' := 199) rfl kt) ?_
        exact J199 _ (oBi_t ⟨hc149, hc163⟩).symm T _ X e0 K
      · refine oWk.to (mkF m 198 #[iv p0, iv p1, iv p2, iv p3, iv p4, iv 2, iv c0_, iv c1_, iv c2_, iv c3_, rv cs, uu, iv c1_, uu] []) (fun _ kt => zF X hx hby at_163 rfl rfl ((if0 _ _).trans (teq (oBi_f hc163)).1) (pc' := 198) rfl kt) ?_
        refine oWk.to (mkF m 199 #[iv p0, iv p1, iv p2, iv p3, iv p4, iv 2, iv c0_, iv c1_, iv c2_, iv c3_, rv cs, uu, iv c1_, uu] [(.int 0)]) (fun _ kt => zK X hx hby at_198 rfl kt) ?_
        exact J199 _ (oBi_f (fun q => hc163 q.2)).symm T _ X e0 K
    · refine oWk.to (mkF m 198 #[iv p0, iv p1, iv p2, iv p3, iv p4, iv 2, iv c0_, iv c1_, iv c2_, iv c3_, rv cs, uu, iv c1_, uu] []) (fun _ kt => zF X hx hby at_149 rfl rfl ((if0 _ _).trans (teq (oBi_f hc149)).1) (pc' := 198) rfl kt) ?_
      refine oWk.to (mkF m 199 #[iv p0, iv p1, iv p2, iv p3, iv p4, iv 2, iv c0_, iv c1_, iv c2_, iv c3_, rv cs, uu, iv c1_, uu] [(.int 0)]) (fun _ kt => zK X hx hby at_198 rfl kt) ?_
      exact J199 _ (oBi_f (fun q => hc149 q.1)).symm T _ X e0 K
  · show oWk _ _ _ _ T (mkF m 37 #[iv p0, iv p1, iv p2, iv p3, iv p4, iv 3, iv c0_, iv c1_, iv c2_, iv c3_, uu, uu, uu, uu] [])
    refine oWk.st (fun _ kt => zJ X hx hby at_37 rfl rfl kt) ?_
    obtain ⟨cs, g38⟩ : ∃ z, z = h0.size := ⟨_, rfl⟩
    have ge_cs : h0.size ≤ cs := Nat.le_trans K.le (Nat.le_of_eq g38.symm)
    have sf_cs := B.new (Nat.le_of_eq g38.symm)
    obtain ⟨T, h, k38, X, e0, E38, A38, st⟩ := newP X hx hZ (oW hw 2 rfl) e0 (g := (mkF m 39 #[iv p0, iv p1, iv p2, iv p3, iv p4, iv 3, iv c0_, iv c1_, iv c2_, iv c3_, uu, uu, uu, uu] [(.int 3)])) rfl (hb hby at_39) rfl (by decide) (cap := 3) (by decide) (by decide) (by decide) (by decide)
    rw [← g38] at A38 st
    have K := K.ext E38
    have sf_cs := Safe.ext E38 B.2.1 sf_cs
    have B := B.ext E38
    have V_cs : Arv Z h cs k38 .char (3 : Int32) [(.int (0 : Int32)), (.int (0 : Int32)), (.int (0 : Int32))] (.int (0 : Int32)) := (Arv.new A38 (by decide)).pad (pad_rep [] (.int (0 : Int32)) 3)
    refine oWk.to (mkF m 53 #[iv p0, iv p1, iv p2, iv p3, iv p4, iv 3, iv c0_, iv c1_, iv c2_, iv c3_, rv cs, uu, uu, uu] [(.int c0_), (.int 0), (.ref cs)]) (fun _ kt => st _ (zT X hx hby at_41 rfl rfl rfl (l' := #[iv p0, iv p1, iv p2, iv p3, iv p4, iv 3, iv c0_, iv c1_, iv c2_, iv c3_, rv cs, uu, uu, uu]) rfl (zJ X hx hby at_43 rfl rfl (zH X hx hby at_45 rfl rfl ((if0 _ _).trans (tlt (by decide)).2.2.2) (zB X hx hby at_48 rfl rfl rfl (zK X hx hby at_50 rfl (zJ X hx hby at_51 rfl rfl kt))))))) ?_
    obtain ⟨cl39, Ar39, q39, Sz39, Nn39, Hs39, Ft39⟩ := id V_cs
    have hin39 : ¬ ((0 : Int32) < 0 ∨ cl39.slots.size ≤ ((0 : Int32)).toNatClampNeg) := inb_of Sz39 ⟨by decide, by decide⟩
    obtain ⟨T, h, X, e0, W39, st⟩ := stC X hx hZ e0 Ar39 (j := (0 : Int32)) hin39 (g := (mkF m 53 #[iv p0, iv p1, iv p2, iv p3, iv p4, iv 3, iv c0_, iv c1_, iv c2_, iv c3_, rv cs, uu, uu, uu] [(.int c0_), (.int 0), (.ref cs)])) rfl rfl (hb hby at_53)
    have K := K.wr W39 (Or.inr ge_cs)
    have sw : Safe Z oEL _ _ cs := sf_cs
    have sf_cs := Safe.wr W39 sw B.2.1 sf_cs
    have B := B.wr W39 sw
    have V_cs := Arv.set Ar39 q39 Sz39 Nn39 Hs39 Ft39 (fits_nar_char _) W39 0 rfl (Nat.le_of_ble_eq_true rfl)
    rw [show nar .char c0_ = c0_ from oChrU r_c0_] at V_cs
    replace V_cs : Arv Z h cs k38 .char (3 : Int32) [(.int c0_), (.int (0 : Int32)), (.int (0 : Int32))] (.int (0 : Int32)) := V_cs
    refine oWk.to (mkF m 65 #[iv p0, iv p1, iv p2, iv p3, iv p4, iv 3, iv c0_, iv c1_, iv c2_, iv c3_, rv cs, uu, uu, uu] [(.int c1_), (.int 1), (.ref cs)]) (fun _ kt => st _ (zJ X hx hby at_54 rfl rfl (zK X hx hby at_56 rfl (zN X hx hby at_57 rfl rfl (tlt (by decide)).2.2.2 (zB X hx hby at_60 rfl rfl rfl (zK X hx hby at_62 rfl (zJ X hx hby at_63 rfl rfl kt))))))) ?_
    obtain ⟨cl40, Ar40, q40, Sz40, Nn40, Hs40, Ft40⟩ := id V_cs
    have hin40 : ¬ ((1 : Int32) < 0 ∨ cl40.slots.size ≤ ((1 : Int32)).toNatClampNeg) := inb_of Sz40 ⟨by decide, by decide⟩
    obtain ⟨T, h, X, e0, W40, st⟩ := stC X hx hZ e0 Ar40 (j := (1 : Int32)) hin40 (g := (mkF m 65 #[iv p0, iv p1, iv p2, iv p3, iv p4, iv 3, iv c0_, iv c1_, iv c2_, iv c3_, rv cs, uu, uu, uu] [(.int c1_), (.int 1), (.ref cs)])) rfl rfl (hb hby at_65)
    have K := K.wr W40 (Or.inr ge_cs)
    have sw : Safe Z oEL _ _ cs := sf_cs
    have sf_cs := Safe.wr W40 sw B.2.1 sf_cs
    have B := B.wr W40 sw
    have V_cs := Arv.set Ar40 q40 Sz40 Nn40 Hs40 Ft40 (fits_nar_char _) W40 1 rfl (Nat.le_of_ble_eq_true rfl)
    rw [show nar .char c1_ = c1_ from oChrU r_c1_] at V_cs
    replace V_cs : Arv Z h cs k38 .char (3 : Int32) [(.int c0_), (.int c1_), (.int (0 : Int32))] (.int (0 : Int32)) := V_cs
    refine oWk.to (mkF m 77 #[iv p0, iv p1, iv p2, iv p3, iv p4, iv 3, iv c0_, iv c1_, iv c2_, iv c3_, rv cs, uu, uu, uu] [(.int c2_), (.int 2), (.ref cs)]) (fun _ kt => st _ (zJ X hx hby at_66 rfl rfl (zK X hx hby at_68 rfl (zN X hx hby at_69 rfl rfl (tlt (by decide)).2.2.2 (zB X hx hby at_72 rfl rfl rfl (zK X hx hby at_74 rfl (zJ X hx hby at_75 rfl rfl kt))))))) ?_
    obtain ⟨cl41, Ar41, q41, Sz41, Nn41, Hs41, Ft41⟩ := id V_cs
    have hin41 : ¬ ((2 : Int32) < 0 ∨ cl41.slots.size ≤ ((2 : Int32)).toNatClampNeg) := inb_of Sz41 ⟨by decide, by decide⟩
    obtain ⟨T, h, X, e0, W41, st⟩ := stC X hx hZ e0 Ar41 (j := (2 : Int32)) hin41 (g := (mkF m 77 #[iv p0, iv p1, iv p2, iv p3, iv p4, iv 3, iv c0_, iv c1_, iv c2_, iv c3_, rv cs, uu, uu, uu] [(.int c2_), (.int 2), (.ref cs)])) rfl rfl (hb hby at_77)
    have K := K.wr W41 (Or.inr ge_cs)
    have sw : Safe Z oEL _ _ cs := sf_cs
    have sf_cs := Safe.wr W41 sw B.2.1 sf_cs
    have B := B.wr W41 sw
    have V_cs := Arv.set Ar41 q41 Sz41 Nn41 Hs41 Ft41 (fits_nar_char _) W41 2 rfl (Nat.le_of_ble_eq_true rfl)
    rw [show nar .char c2_ = c2_ from oChrU r_c2_] at V_cs
    replace V_cs : Arv Z h cs k38 .char (3 : Int32) [(.int c0_), (.int c1_), (.int c2_)] (.int (0 : Int32)) := V_cs
    refine oWk.to (mkF m 103 #[iv p0, iv p1, iv p2, iv p3, iv p4, iv 3, iv c0_, iv c1_, iv c2_, iv c3_, rv cs, uu, uu, uu] [(.int 3)]) (fun _ kt => st _ (zJ X hx hby at_78 rfl rfl (zK X hx hby at_80 rfl (zY X hx hby at_81 rfl rfl (flt (by decide)).2.2.2 (pc' := 90) rfl (zJ X hx hby at_90 rfl rfl (zF X hx hby at_92 rfl rfl ((if0 _ _).trans (feq (by decide)).2) (pc' := 101) rfl (zJ X hx hby at_101 rfl rfl kt))))))) ?_
    refine oWk.to (mkF m 130 #[iv p0, iv p1, iv p2, iv p3, iv p4, iv 3, iv c0_, iv c1_, iv c2_, iv c3_, rv cs, uu, uu, uu] [(.int 3), (.int 3)]) (fun _ kt => zK X hx hby at_103 rfl (zY X hx hby at_104 rfl rfl (feq (by decide)).2 (pc' := 114) rfl (zJ X hx hby at_114 rfl rfl (zK X hx hby at_116 rfl (zY X hx hby at_117 rfl rfl (feq (by decide)).2 (pc' := 127) rfl (zJ X hx hby at_127 rfl rfl (zK X hx hby at_129 rfl kt))))))) ?_
    refine oWk.st (fun _ kt => zN X hx hby at_130 rfl rfl (teq (by decide)).2 (zJ X hx hby at_133 rfl rfl (zS X hx hby at_135 rfl rfl (l' := #[iv p0, iv p1, iv p2, iv p3, iv p4, iv 3, iv c0_, iv c1_, iv c2_, iv c3_, rv cs, uu, iv c2_, uu]) rfl (zG X hx hby at_137 rfl (pc' := 144) rfl (zJ X hx hby at_144 rfl rfl kt))))) ?_
    have Oh := K.old O0 all0
    obtain ⟨T, L43, X, e0, K, st⟩ := (cs24 hw).pure X hx hZ hown e0 K (A := [(.int c0_)]) rfl (rPl l Z a0 hw [] c0_ h Oh ) (fun _ _ _ q => q) (W := 0) (by decide) hml (Ls := #[iv p0, iv p1, iv p2, iv p3, iv p4, iv 3, iv c0_, iv c1_, iv c2_, iv c3_, rv cs, uu, iv c2_, uu]) rfl (rest := []) rfl rfl hby at_146
    refine oWk.to (mkF m 149 #[iv p0, iv p1, iv p2, iv p3, iv p4, iv 3, iv c0_, iv c1_, iv c2_, iv c3_, rv cs, uu, iv c2_, uu] [(.int (oBi (oPl c0_)))]) (fun _ kt => st _ kt) ?_
    have J199 : ∀ (ao : Int32), ao = oBi (oPl c0_ ∧ oPl c1_ ∧ oPl c2_) → ∀ (T' : State) (L' : List Loc), oStd X T' L' → T'.heap = h → oKp h0 h [] L' → oWk p.tables e below (oDnH Z oEL s h0 below (Q_rLaw Z p0 p1 p2 p3 p4 xfm xz h0) room_1.cells room_1.slots) T' (mkF m 199 #[iv p0, iv p1, iv p2, iv p3, iv p4, iv 3, iv c0_, iv c1_, iv c2_, iv c3_, rv cs, uu, iv c2_, uu] [(.int ao)]) := by
      intro ao hao T LJ X e0 K
      have X : Stand p l e _ _ m _ below meth c T LJ _ _ := X
      subst hao
      show oWk _ _ _ _ T (mkF m 199 #[iv p0, iv p1, iv p2, iv p3, iv p4, iv 3, iv c0_, iv c1_, iv c2_, iv c3_, rv cs, uu, iv c2_, uu] [(.int (oBi (oPl c0_ ∧ oPl c1_ ∧ oPl c2_)))])
      refine oWk.to (mkF m 205 #[iv p0, iv p1, iv p2, iv p3, iv p4, iv 3, iv c0_, iv c1_, iv c2_, iv c3_, rv cs, uu, iv c2_, iv (oBi (oPl c0_ ∧ oPl c1_ ∧ oPl c2_))] [(.int 46), (.int c2_)]) (fun _ kt => zS X hx hby at_199 rfl rfl (l' := #[iv p0, iv p1, iv p2, iv p3, iv p4, iv 3, iv c0_, iv c1_, iv c2_, iv c3_, rv cs, uu, iv c2_, iv (oBi (oPl c0_ ∧ oPl c1_ ∧ oPl c2_))]) rfl (zJ X hx hby at_201 rfl rfl (zL X hx hby at_203 rfl kt))) ?_
      have J225 : ∀ (ex : Int32), ex = oBi (¬ c2_ = (46 : Int32) ∧ ¬ c2_ = (32 : Int32) ∧ oPl c0_ ∧ oPl c1_ ∧ oPl c2_) → oWk p.tables e below (oDnH Z oEL s h0 below (Q_rLaw Z p0 p1 p2 p3 p4 xfm xz h0) room_1.cells room_1.slots) T (mkF m 225 #[iv p0, iv p1, iv p2, iv p3, iv p4, iv 3, iv c0_, iv c1_, iv c2_, iv c3_, rv cs, uu, iv c2_, iv (oBi (oPl c0_ ∧ oPl c1_ ∧ oPl c2_))] [(.int ex)]) := by
        intro ex hex
        subst hex
        show oWk _ _ _ _ T (mkF m 225 #[iv p0, iv p1, iv p2, iv p3, iv p4, iv 3, iv c0_, iv c1_, iv c2_, iv c3_, rv cs, uu, iv c2_, iv (oBi (oPl c0_ ∧ oPl c1_ ∧ oPl c2_))] [(.int (oBi (¬ c2_ = (46 : Int32) ∧ ¬ c2_ = (32 : Int32) ∧ oPl c0_ ∧ oPl c1_ ∧ oPl c2_)))])
        refine oWk.to (mkF m 227 #[iv p0, iv p1, iv p2, iv p3, iv p4, iv 3, iv c0_, iv c1_, iv c2_, iv c3_, rv cs, iv (oBi (¬ c2_ = (46 : Int32) ∧ ¬ c2_ = (32 : Int32) ∧ oPl c0_ ∧ oPl c1_ ∧ oPl c2_)), iv c2_, iv (oBi (oPl c0_ ∧ oPl c1_ ∧ oPl c2_))] []) (fun _ kt => zS X hx hby at_225 rfl rfl (l' := #[iv p0, iv p1, iv p2, iv p3, iv p4, iv 3, iv c0_, iv c1_, iv c2_, iv c3_, rv cs, iv (oBi (¬ c2_ = (46 : Int32) ∧ ¬ c2_ = (32 : Int32) ∧ oPl c0_ ∧ oPl c1_ ∧ oPl c2_)), iv c2_, iv (oBi (oPl c0_ ∧ oPl c1_ ∧ oPl c2_))]) rfl kt) ?_
        rcases oLU3 c0_ c1_ c2_ with ⟨hl0, hl1, hl2⟩ | hU
        · show oWk _ _ _ _ T (mkF m 227 #[iv p0, iv p1, iv p2, iv p3, iv p4, iv 3, iv c0_, iv c1_, iv c2_, iv c3_, rv cs, iv (oBi (¬ c2_ = (46 : Int32) ∧ ¬ c2_ = (32 : Int32) ∧ oPl c0_ ∧ oPl c1_ ∧ oPl c2_)), iv c2_, iv (oBi (oPl c0_ ∧ oPl c1_ ∧ oPl c2_))] [])
          obtain ⟨so, g44⟩ : ∃ z, z = h.size := ⟨_, rfl⟩
          have ne_cs_so : cs ≠ so := Nat.ne_of_lt (Nat.lt_of_lt_of_le V_cs.lt (Nat.le_of_eq g44.symm))
          have ge_so : h0.size ≤ so := Nat.le_trans K.le (Nat.le_of_eq g44.symm)
          have sf_so := B.new (Nat.le_of_eq g44.symm)
          obtain ⟨T, h, X, e0, E44, A44, D44, -, st⟩ := newO X hx hZ hown (oW hw 3 rfl) (oW hw 4 rfl) (oW hw 5 rfl) e0 (g := (mkF m 227 #[iv p0, iv p1, iv p2, iv p3, iv p4, iv 3, iv c0_, iv c1_, iv c2_, iv c3_, rv cs, iv (oBi (¬ c2_ = (46 : Int32) ∧ ¬ c2_ = (32 : Int32) ∧ oPl c0_ ∧ oPl c1_ ∧ oPl c2_)), iv c2_, iv (oBi (oPl c0_ ∧ oPl c1_ ∧ oPl c2_))] [])) rfl (hb hby at_227) (by decide) (by decide)
          rw [← g44] at A44 D44 st
          have K := K.ext E44
          have sf_cs := Safe.ext E44 B.2.1 sf_cs
          have sf_so := Safe.ext E44 B.2.1 sf_so
          have B := B.ext E44
          have E_so := A44
          have F_value_so : Fld Z h so Y0 "value" "[B" .null := D44 (Or.inr (oW hw 18 rfl)) (ty := (.array .byte)) (by decide)
          have F_coder_so : Fld Z h so Y0 "coder" "B" (.int (0 : Int32)) := D44 (Or.inr (oW hw 19 rfl)) (ty := .byte) (by decide)
          refine oWk.st (fun _ kt => st _ (zD X hx hby at_230 rfl rfl rfl (zB X hx hby at_231 rfl rfl rfl kt))) ?_
          have V_cs := (V_cs.ext E44)
          have lt_cs := V_cs.lt
          have lt_so := E_so.lt
          have Oh := K.old O0 all0
          obtain ⟨_, T, h, Lc46, X, e0, hQ, st⟩ := (cs25 hw).run X hx hZ hown e0 (A := [(.ref so), (.ref cs)]) ⟨rfl, _, _, rfl⟩ (rI1_3 l Z a0 hw [] so cs k38 xz .null (.int (0 : Int32)) c0_ c1_ c2_ h Oh S_COMPACT_STRINGS hz (Nat.le_trans O0.1 ge_so) E_so F_value_so F_coder_so V_cs hl0 hl1 hl2) (W := 1) (by decide) hml (Ls := #[iv p0, iv p1, iv p2, iv p3, iv p4, iv 3, iv c0_, iv c1_, iv c2_, iv c3_, rv cs, iv (oBi (¬ c2_ = (46 : Int32) ∧ ¬ c2_ = (32 : Int32) ∧ oPl c0_ ∧ oPl c1_ ∧ oPl c2_)), iv c2_, iv (oBi (oPl c0_ ∧ oPl c1_ ∧ oPl c2_))]) rfl (rest := [(.ref so)]) rfl rfl hby at_233
          obtain ⟨sob, sobk, rfl, K45, E_so, F_coder_so, F_value_so, gn_sob, V_sob⟩ := hQ
          have ge_sob := Nat.le_trans K.le gn_sob
          have ne_cs_sob : cs ≠ sob := Nat.ne_of_lt (Nat.lt_of_lt_of_le lt_cs gn_sob)
          have ne_so_sob : so ≠ sob := Nat.ne_of_lt (Nat.lt_of_lt_of_le lt_so gn_sob)
          have K := K.call K45 (allS (Or.inr ge_so) all0)
          have sw : ∀ x ∈ ([so] : List Addr), Safe Z oEL _ _ x := (sfS sf_so sf0)
          have sf_cs := Safe.keep K45.1 sw B.2.1 sf_cs
          have sf_so := Safe.keep K45.1 sw B.2.1 sf_so
          have B := B.keep K45.1 sw
          refine oWk.st (fun _ kt => st _ kt) ?_
          have Oh := K.old O0 all0
          obtain ⟨T, L48, X, e0, K, st⟩ := (cs23 hw).pure X hx hZ hown e0 K (A := [(.ref so)]) rfl (rSSL_3 l Z a0 hw [] so sob sobk xfm xz c0_ c1_ c2_ h Oh S_COMPACT_STRINGS hz S_SIOOBE_FORMATTER hcat E_so F_coder_so F_value_so V_sob (oLt256 r_c0_ hl0) (oLt256 r_c1_ hl1) (oLt256 r_c2_ hl2)) (fun _ _ _ q => q) (W := 0) (by decide) hml (Ls := #[iv p0, iv p1, iv p2, iv p3, iv p4, iv 3, iv c0_, iv c1_, iv c2_, iv c3_, rv cs, iv (oBi (¬ c2_ = (46 : Int32) ∧ ¬ c2_ = (32 : Int32) ∧ oPl c0_ ∧ oPl c1_ ∧ oPl c2_)), iv c2_, iv (oBi (oPl c0_ ∧ oPl c1_ ∧ oPl c2_))]) rfl (rest := []) rfl rfl hby at_236
          refine oWk.to (mkF m 249 #[iv p0, iv p1, iv p2, iv p3, iv p4, iv 3, iv c0_, iv c1_, iv c2_, iv c3_, rv cs, iv (oBi (¬ c2_ = (46 : Int32) ∧ ¬ c2_ = (32 : Int32) ∧ oPl c0_ ∧ oPl c1_ ∧ oPl c2_)), iv c2_, iv (oBi (oPl c0_ ∧ oPl c1_ ∧ oPl c2_))] [(.int 1)]) (fun _ kt => st _ (zJ X hx hby at_239 rfl rfl (zN X hx hby at_241 rfl rfl (teq rfl).2 (zK X hx hby at_244 rfl (zG X hx hby at_245 rfl (pc' := 249) rfl kt))))) ?_
          exact oRetH X hx hlk hZ (oELw hw) e0 B hret (oNar01 (Or.inr rfl)) (Or.inl ⟨rfl, Or.inr (Or.inl rfl), _, rfl⟩) (hb hby at_249) (by rw [e0]; exact ⟨rfl, K.fr⟩) (by decide) (by decide)
        · show oWk _ _ _ _ T (mkF m 227 #[iv p0, iv p1, iv p2, iv p3, iv p4, iv 3, iv c0_, iv c1_, iv c2_, iv c3_, rv cs, iv (oBi (¬ c2_ = (46 : Int32) ∧ ¬ c2_ = (32 : Int32) ∧ oPl c0_ ∧ oPl c1_ ∧ oPl c2_)), iv c2_, iv (oBi (oPl c0_ ∧ oPl c1_ ∧ oPl c2_))] [])
          obtain ⟨so, g49⟩ : ∃ z, z = h.size := ⟨_, rfl⟩
          have ne_cs_so : cs ≠ so := Nat.ne_of_lt (Nat.lt_of_lt_of_le V_cs.lt (Nat.le_of_eq g49.symm))
          have ge_so : h0.size ≤ so := Nat.le_trans K.le (Nat.le_of_eq g49.symm)
          have sf_so := B.new (Nat.le_of_eq g49.symm)
          obtain ⟨T, h, X, e0, E49, A49, D49, -, st⟩ := newO X hx hZ hown (oW hw 3 rfl) (oW hw 4 rfl) (oW hw 5 rfl) e0 (g := (mkF m 227 #[iv p0, iv p1, iv p2, iv p3, iv p4, iv 3, iv c0_, iv c1_, iv c2_, iv c3_, rv cs, iv (oBi (¬ c2_ = (46 : Int32) ∧ ¬ c2_ = (32 : Int32) ∧ oPl c0_ ∧ oPl c1_ ∧ oPl c2_)), iv c2_, iv (oBi (oPl c0_ ∧ oPl c1_ ∧ oPl c2_))] [])) rfl (hb hby at_227) (by decide) (by decide)
          rw [← g49] at A49 D49 st
          have K := K.ext E49
          have sf_cs := Safe.ext E49 B.2.1 sf_cs
          have sf_so := Safe.ext E49 B.2.1 sf_so
          have B := B.ext E49
          have E_so := A49
          have F_value_so : Fld Z h so Y0 "value" "[B" .null := D49 (Or.inr (oW hw 18 rfl)) (ty := (.array .byte)) (by decide)
          have F_coder_so : Fld Z h so Y0 "coder" "B" (.int (0 : Int32)) := D49 (Or.inr (oW hw 19 rfl)) (ty := .byte) (by decide)
          refine oWk.st (fun _ kt => st _ (zD X hx hby at_230 rfl rfl rfl (zB X hx hby at_231 rfl rfl rfl kt))) ?_
          have V_cs := (V_cs.ext E49)
          have lt_cs := V_cs.lt
          have lt_so := E_so.lt
          have Oh := K.old O0 all0
          obtain ⟨_, T, h, Lc51, X, e0, hQ, st⟩ := (cs25 hw).run X hx hZ hown e0 (A := [(.ref so), (.ref cs)]) ⟨rfl, _, _, rfl⟩ (rI1U_3 l Z a0 hw [] so cs k38 xz .null (.int (0 : Int32)) c0_ c1_ c2_ h Oh S_COMPACT_STRINGS hz S__assertionsDisabled S_HI_BYTE_SHIFT S_LO_BYTE_SHIFT (Nat.le_trans O0.1 ge_so) E_so F_value_so F_coder_so V_cs r_c0_ r_c1_ r_c2_ hU) (W := 1) (by decide) hml (Ls := #[iv p0, iv p1, iv p2, iv p3, iv p4, iv 3, iv c0_, iv c1_, iv c2_, iv c3_, rv cs, iv (oBi (¬ c2_ = (46 : Int32) ∧ ¬ c2_ = (32 : Int32) ∧ oPl c0_ ∧ oPl c1_ ∧ oPl c2_)), iv c2_, iv (oBi (oPl c0_ ∧ oPl c1_ ∧ oPl c2_))]) rfl (rest := [(.ref so)]) rfl rfl hby at_233
          obtain ⟨sob, sobk, rfl, K50, E_so, F_coder_so, F_value_so, gn_sob, V_sob⟩ := hQ
          have ge_sob := Nat.le_trans K.le gn_sob
          have ne_cs_sob : cs ≠ sob := Nat.ne_of_lt (Nat.lt_of_lt_of_le lt_cs gn_sob)
          have ne_so_sob : so ≠ sob := Nat.ne_of_lt (Nat.lt_of_lt_of_le lt_so gn_sob)
          have K := K.call K50 (allS (Or.inr ge_so) all0)
          have sw : ∀ x ∈ ([so] : List Addr), Safe Z oEL _ _ x := (sfS sf_so sf0)
          have sf_cs := Safe.keep K50.1 sw B.2.1 sf_cs
          have sf_so := Safe.keep K50.1 sw B.2.1 sf_so
          have B := B.keep K50.1 sw
          refine oWk.st (fun _ kt => st _ kt) ?_
          have Oh := K.old O0 all0
          obtain ⟨T, L53, X, e0, K, st⟩ := (cs23 hw).pure X hx hZ hown e0 K (A := [(.ref so)]) rfl (rSSU_3 l Z a0 hw [] so sob sobk xfm xz c0_ c1_ c2_ h Oh S_COMPACT_STRINGS hz S__assertionsDisabled S_HI_BYTE_SHIFT S_LO_BYTE_SHIFT S_SIOOBE_FORMATTER hcat E_so F_coder_so F_value_so V_sob r_c0_ r_c1_ r_c2_) (fun _ _ _ q => q) (W := 0) (by decide) hml (Ls := #[iv p0, iv p1, iv p2, iv p3, iv p4, iv 3, iv c0_, iv c1_, iv c2_, iv c3_, rv cs, iv (oBi (¬ c2_ = (46 : Int32) ∧ ¬ c2_ = (32 : Int32) ∧ oPl c0_ ∧ oPl c1_ ∧ oPl c2_)), iv c2_, iv (oBi (oPl c0_ ∧ oPl c1_ ∧ oPl c2_))]) rfl (rest := []) rfl rfl hby at_236
          refine oWk.to (mkF m 249 #[iv p0, iv p1, iv p2, iv p3, iv p4, iv 3, iv c0_, iv c1_, iv c2_, iv c3_, rv cs, iv (oBi (¬ c2_ = (46 : Int32) ∧ ¬ c2_ = (32 : Int32) ∧ oPl c0_ ∧ oPl c1_ ∧ oPl c2_)), iv c2_, iv (oBi (oPl c0_ ∧ oPl c1_ ∧ oPl c2_))] [(.int 1)]) (fun _ kt => st _ (zJ X hx hby at_239 rfl rfl (zN X hx hby at_241 rfl rfl (teq rfl).2 (zK X hx hby at_244 rfl (zG X hx hby at_245 rfl (pc' := 249) rfl kt))))) ?_
          exact oRetH X hx hlk hZ (oELw hw) e0 B hret (oNar01 (Or.inr rfl)) (Or.inl ⟨rfl, Or.inr (Or.inl rfl), _, rfl⟩) (hb hby at_249) (by rw [e0]; exact ⟨rfl, K.fr⟩) (by decide) (by decide)
      by_cases hc205 : c2_ = (46 : Int32)
      · refine oWk.to (mkF m 224 #[iv p0, iv p1, iv p2, iv p3, iv p4, iv 3, iv c0_, iv c1_, iv c2_, iv c3_, rv cs, uu, iv c2_, iv (oBi (oPl c0_ ∧ oPl c1_ ∧ oPl c2_))] []) (fun _ kt => zY X hx hby at_205 rfl rfl (teq hc205).1 (pc' := 224) rfl kt) ?_
        refine oWk.to (mkF m 225 #[iv p0, iv p1, iv p2, iv p3, iv p4, iv 3, iv c0_, iv c1_, iv c2_, iv c3_, rv cs, uu, iv c2_, iv (oBi (oPl c0_ ∧ oPl c1_ ∧ oPl c2_))] [(.int 0)]) (fun _ kt => zK X hx hby at_224 rfl kt) ?_
        exact J225 _ (oBi_f (fun q => q.1 hc205)).symm
      · refine oWk.to (mkF m 208 #[iv p0, iv p1, iv p2, iv p3, iv p4, iv 3, iv c0_, iv c1_, iv c2_, iv c3_, rv cs, uu, iv c2_, iv (oBi (oPl c0_ ∧ oPl c1_ ∧ oPl c2_))] []) (fun _ kt => zN X hx hby at_205 rfl rfl (feq hc205).1 kt) ?_
        refine oWk.to (mkF m 212 #[iv p0, iv p1, iv p2, iv p3, iv p4, iv 3, iv c0_, iv c1_, iv c2_, iv c3_, rv cs, uu, iv c2_, iv (oBi (oPl c0_ ∧ oPl c1_ ∧ oPl c2_))] [(.int 32), (.int c2_)]) (fun _ kt => zJ X hx hby at_208 rfl rfl (zL X hx hby at_210 rfl kt)) ?_
        by_cases hc212 : c2_ = (32 : Int32)
        · refine oWk.to (mkF m 224 #[iv p0, iv p1, iv p2, iv p3, iv p4, iv 3, iv c0_, iv c1_, iv c2_, iv c3_, rv cs, uu, iv c2_, iv (oBi (oPl c0_ ∧ oPl c1_ ∧ oPl c2_))] []) (fun _ kt => zY X hx hby at_212 rfl rfl (teq hc212).1 (pc' := 224) rfl kt) ?_
          refine oWk.to (mkF m 225 #[iv p0, iv p1, iv p2, iv p3, iv p4, iv 3, iv c0_, iv c1_, iv c2_, iv c3_, rv cs, uu, iv c2_, iv (oBi (oPl c0_ ∧ oPl c1_ ∧ oPl c2_))] [(.int 0)]) (fun _ kt => zK X hx hby at_224 rfl kt) ?_
          exact J225 _ (oBi_f (fun q => q.2.1 hc212)).symm
        · refine oWk.to (mkF m 215 #[iv p0, iv p1, iv p2, iv p3, iv p4, iv 3, iv c0_, iv c1_, iv c2_, iv c3_, rv cs, uu, iv c2_, iv (oBi (oPl c0_ ∧ oPl c1_ ∧ oPl c2_))] []) (fun _ kt => zN X hx hby at_212 rfl rfl (feq hc212).1 kt) ?_
          refine oWk.to (mkF m 217 #[iv p0, iv p1, iv p2, iv p3, iv p4, iv 3, iv c0_, iv c1_, iv c2_, iv c3_, rv cs, uu, iv c2_, iv (oBi (oPl c0_ ∧ oPl c1_ ∧ oPl c2_))] [(.int (oBi (oPl c0_ ∧ oPl c1_ ∧ oPl c2_)))]) (fun _ kt => zJ X hx hby at_215 rfl rfl kt) ?_
          by_cases hc217 : oPl c0_ ∧ oPl c1_ ∧ oPl c2_
          · refine oWk.to (mkF m 220 #[iv p0, iv p1, iv p2, iv p3, iv p4, iv 3, iv c0_, iv c1_, iv c2_, iv c3_, rv cs, uu, iv c2_, iv (oBi (oPl c0_ ∧ oPl c1_ ∧ oPl c2_))] []) (fun _ kt => zH X hx hby at_217 rfl rfl ((if0 _ _).trans (feq (oBi_ne hc217)).1) kt) ?_
            refine oWk.to (mkF m 225 #[iv p0, iv p1, iv p2, iv p3, iv p4, iv 3, iv c0_, iv c1_, iv c2_, iv c3_, rv cs, uu, iv c2_, iv (oBi (oPl c0_ ∧ oPl c1_ ∧ oPl c2_))] [(.int 1)]) (fun _ kt => zK X hx hby at_220 rfl (zG X hx hby at_221 rfl (pc' := 225) rfl kt)) ?_
            exact J225 _ (oBi_t ⟨hc205, hc212, hc217⟩).symm
          · refine oWk.to (mkF m 224 #[iv p0, iv p1, iv p2, iv p3, iv p4, iv 3, iv c0_, iv c1_, iv c2_, iv c3_, rv cs, uu, iv c2_, iv (oBi (oPl c0_ ∧ oPl c1_ ∧ oPl c2_))] []) (fun _ kt => zF X hx hby at_217 rfl rfl ((if0 _ _).trans (teq (oBi_f hc217)).1) (pc' := 224) rfl kt) ?_
            refine oWk.to (mkF m 225 #[iv p0, iv p1, iv p2, iv p3, iv p4, iv 3, iv c0_, iv c1_, iv c2_, iv c3_, rv cs, uu, iv c2_, iv (oBi (oPl c0_ ∧ oPl c1_ ∧ oPl c2_))] [(.int 0)]) (fun _ kt => zK X hx hby at_224 rfl kt) ?_
            exact J225 _ (oBi_f (fun q => hc217 q.2.2)).symm
    by_cases hc149 : oPl c0_
    · refine oWk.to (mkF m 152 #[iv p0, iv p1, iv p2, iv p3, iv p4, iv 3, iv c0_, iv c1_, iv c2_, iv c3_, rv cs, uu, iv c2_, uu] []) (fun _ kt => zH X hx hby at_149 rfl rfl ((if0 _ _).trans (feq (oBi_ne hc149)).1) kt) ?_
      refine oWk.st (fun _ kt => zJ X hx hby at_152 rfl rfl (zK X hx hby at_154 rfl (zN X hx hby at_155 rfl rfl (flt (by decide)).1 (zJ X hx hby at_158 rfl rfl kt)))) ?_
      obtain ⟨T, L55, X, e0, K, st⟩ := (cs24 hw).pure X hx hZ hown e0 K (A := [(.int c1_)]) rfl (rPl l Z a0 hw [] c1_ h Oh ) (fun _ _ _ q => q) (W := 0) (by decide) hml (Ls := #[iv p0, iv p1, iv p2, iv p3, iv p4, iv 3, iv c0_, iv c1_, iv c2_, iv c3_, rv cs, uu, iv c2_, uu]) rfl (rest := []) rfl rfl hby at_160
      refine oWk.to (mkF m 163 #[iv p0, iv p1, iv p2, iv p3, iv p4, iv 3, iv c0_, iv c1_, iv c2_, iv c3_, rv cs, uu, iv c2_, uu] [(.int (oBi (oPl c1_)))]) (fun _ kt => st _ kt) ?_
      by_cases hc163 : oPl c1_
      · refine oWk.to (mkF m 166 #[iv p0, iv p1, iv p2, iv p3, iv p4, iv 3, iv c0_, iv c1_, iv c2_, iv c3_, rv cs, uu, iv c2_, uu] []) (fun _ kt => zH X hx hby at_163 rfl rfl ((if0 _ _).trans (feq (oBi_ne hc163)).1) kt) ?_
        refine oWk.st (fun _ kt => zJ X hx hby at_166 rfl rfl (zK X hx hby at_168 rfl (zN X hx hby at_169 rfl rfl (flt (by decide)).1 (zJ X hx hby at_172 rfl rfl kt)))) ?_
        obtain ⟨T, L57, X, e0, K, st⟩ := (cs24 hw).pure X hx hZ hown e0 K (A := [(.int c2_)]) rfl (rPl l Z a0 hw [] c2_ h Oh ) (fun _ _ _ q => q) (W := 0) (by decide) hml (Ls := #[iv p0, iv p1, iv p2, iv p3, iv p4, iv 3, iv c0_, iv c1_, iv c2_, iv c3_, rv cs, uu, iv c2_, uu]) rfl (rest := []) rfl rfl hby at_174
        refine oWk.to (mkF m 177 #[iv p0, iv p1, iv p2, iv p3, iv p4, iv 3, iv c0_, iv c1_, iv c2_, iv c3_, rv cs, uu, iv c2_, uu] [(.int (oBi (oPl c2_)))]) (fun _ kt => st _ kt) ?_
        by_cases hc177 : oPl c2_
        · refine oWk.to (mkF m 180 #[iv p0, iv p1, iv p2, iv p3, iv p4, iv 3, iv c0_, iv c1_, iv c2_, iv c3_, rv cs, uu, iv c2_, uu] []) (fun _ kt => zH X hx hby at_177 rfl rfl ((if0 _ _).trans (feq (oBi_ne hc177)).1) kt) ?_
          refine oWk.to (mkF m 199 #[iv p0, iv p1, iv p2, iv p3, iv p4, iv 3, iv c0_, iv c1_, iv c2_, iv c3_, rv cs, uu, iv c2_, uu] [(.int 1)]) (fun _ kt => zJ X hx hby at_180 rfl rfl (zK X hx hby at_182 rfl (zY X hx hby at_183 rfl rfl (tlt (by decide)).1 (pc' := 194) rfl (zK X hx hby at_194 rfl (zG X hx hby at_195 rfl (pc' := 199) rfl kt))))) ?_
          exact J199 _ (oBi_t ⟨hc149, hc163, hc177⟩).symm T _ X e0 K
        · refine oWk.to (mkF m 198 #[iv p0, iv p1, iv p2, iv p3, iv p4, iv 3, iv c0_, iv c1_, iv c2_, iv c3_, rv cs, uu, iv c2_, uu] []) (fun _ kt => zF X hx hby at_177 rfl rfl ((if0 _ _).trans (teq (oBi_f hc177)).1) (pc' := 198) rfl kt) ?_
          refine oWk.to (mkF m 199 #[iv p0, iv p1, iv p2, iv p3, iv p4, iv 3, iv c0_, iv c1_, iv c2_, iv c3_, rv cs, uu, iv c2_, uu] [(.int 0)]) (fun _ kt => zK X hx hby at_198 rfl kt) ?_
          exact J199 _ (oBi_f (fun q => hc177 q.2.2)).symm T _ X e0 K
      · refine oWk.to (mkF m 198 #[iv p0, iv p1, iv p2, iv p3, iv p4, iv 3, iv c0_, iv c1_, iv c2_, iv c3_, rv cs, uu, iv c2_, uu] []) (fun _ kt => zF X hx hby at_163 rfl rfl ((if0 _ _).trans (teq (oBi_f hc163)).1) (pc' := 198) rfl kt) ?_
        refine oWk.to (mkF m 199 #[iv p0, iv p1, iv p2, iv p3, iv p4, iv 3, iv c0_, iv c1_, iv c2_, iv c3_, rv cs, uu, iv c2_, uu] [(.int 0)]) (fun _ kt => zK X hx hby at_198 rfl kt) ?_
        exact J199 _ (oBi_f (fun q => hc163 q.2.1)).symm T _ X e0 K
    · refine oWk.to (mkF m 198 #[iv p0, iv p1, iv p2, iv p3, iv p4, iv 3, iv c0_, iv c1_, iv c2_, iv c3_, rv cs, uu, iv c2_, uu] []) (fun _ kt => zF X hx hby at_149 rfl rfl ((if0 _ _).trans (teq (oBi_f hc149)).1) (pc' := 198) rfl kt) ?_
      refine oWk.to (mkF m 199 #[iv p0, iv p1, iv p2, iv p3, iv p4, iv 3, iv c0_, iv c1_, iv c2_, iv c3_, rv cs, uu, iv c2_, uu] [(.int 0)]) (fun _ kt => zK X hx hby at_198 rfl kt) ?_
      exact J199 _ (oBi_f (fun q => hc149 q.1)).symm T _ X e0 K
  · show oWk _ _ _ _ T (mkF m 37 #[iv p0, iv p1, iv p2, iv p3, iv p4, iv 4, iv c0_, iv c1_, iv c2_, iv c3_, uu, uu, uu, uu] [])
    refine oWk.st (fun _ kt => zJ X hx hby at_37 rfl rfl kt) ?_
    obtain ⟨cs, g58⟩ : ∃ z, z = h0.size := ⟨_, rfl⟩
    have ge_cs : h0.size ≤ cs := Nat.le_trans K.le (Nat.le_of_eq g58.symm)
    have sf_cs := B.new (Nat.le_of_eq g58.symm)
    obtain ⟨T, h, k58, X, e0, E58, A58, st⟩ := newP X hx hZ (oW hw 2 rfl) e0 (g := (mkF m 39 #[iv p0, iv p1, iv p2, iv p3, iv p4, iv 4, iv c0_, iv c1_, iv c2_, iv c3_, uu, uu, uu, uu] [(.int 4)])) rfl (hb hby at_39) rfl (by decide) (cap := 4) (by decide) (by decide) (by decide) (by decide)
    rw [← g58] at A58 st
    have K := K.ext E58
    have sf_cs := Safe.ext E58 B.2.1 sf_cs
    have B := B.ext E58
    have V_cs : Arv Z h cs k58 .char (4 : Int32) [(.int (0 : Int32)), (.int (0 : Int32)), (.int (0 : Int32)), (.int (0 : Int32))] (.int (0 : Int32)) := (Arv.new A58 (by decide)).pad (pad_rep [] (.int (0 : Int32)) 4)
    refine oWk.to (mkF m 53 #[iv p0, iv p1, iv p2, iv p3, iv p4, iv 4, iv c0_, iv c1_, iv c2_, iv c3_, rv cs, uu, uu, uu] [(.int c0_), (.int 0), (.ref cs)]) (fun _ kt => st _ (zT X hx hby at_41 rfl rfl rfl (l' := #[iv p0, iv p1, iv p2, iv p3, iv p4, iv 4, iv c0_, iv c1_, iv c2_, iv c3_, rv cs, uu, uu, uu]) rfl (zJ X hx hby at_43 rfl rfl (zH X hx hby at_45 rfl rfl ((if0 _ _).trans (tlt (by decide)).2.2.2) (zB X hx hby at_48 rfl rfl rfl (zK X hx hby at_50 rfl (zJ X hx hby at_51 rfl rfl kt))))))) ?_
    obtain ⟨cl59, Ar59, q59, Sz59, Nn59, Hs59, Ft59⟩ := id V_cs
    have hin59 : ¬ ((0 : Int32) < 0 ∨ cl59.slots.size ≤ ((0 : Int32)).toNatClampNeg) := inb_of Sz59 ⟨by decide, by decide⟩
    obtain ⟨T, h, X, e0, W59, st⟩ := stC X hx hZ e0 Ar59 (j := (0 : Int32)) hin59 (g := (mkF m 53 #[iv p0, iv p1, iv p2, iv p3, iv p4, iv 4, iv c0_, iv c1_, iv c2_, iv c3_, rv cs, uu, uu, uu] [(.int c0_), (.int 0), (.ref cs)])) rfl rfl (hb hby at_53)
    have K := K.wr W59 (Or.inr ge_cs)
    have sw : Safe Z oEL _ _ cs := sf_cs
    have sf_cs := Safe.wr W59 sw B.2.1 sf_cs
    have B := B.wr W59 sw
    have V_cs := Arv.set Ar59 q59 Sz59 Nn59 Hs59 Ft59 (fits_nar_char _) W59 0 rfl (Nat.le_of_ble_eq_true rfl)
    rw [show nar .char c0_ = c0_ from oChrU r_c0_] at V_cs
    replace V_cs : Arv Z h cs k58 .char (4 : Int32) [(.int c0_), (.int (0 : Int32)), (.int (0 : Int32)), (.int (0 : Int32))] (.int (0 : Int32)) := V_cs
    refine oWk.to (mkF m 65 #[iv p0, iv p1, iv p2, iv p3, iv p4, iv 4, iv c0_, iv c1_, iv c2_, iv c3_, rv cs, uu, uu, uu] [(.int c1_), (.int 1), (.ref cs)]) (fun _ kt => st _ (zJ X hx hby at_54 rfl rfl (zK X hx hby at_56 rfl (zN X hx hby at_57 rfl rfl (tlt (by decide)).2.2.2 (zB X hx hby at_60 rfl rfl rfl (zK X hx hby at_62 rfl (zJ X hx hby at_63 rfl rfl kt))))))) ?_
    obtain ⟨cl60, Ar60, q60, Sz60, Nn60, Hs60, Ft60⟩ := id V_cs
    have hin60 : ¬ ((1 : Int32) < 0 ∨ cl60.slots.size ≤ ((1 : Int32)).toNatClampNeg) := inb_of Sz60 ⟨by decide, by decide⟩
    obtain ⟨T, h, X, e0, W60, st⟩ := stC X hx hZ e0 Ar60 (j := (1 : Int32)) hin60 (g := (mkF m 65 #[iv p0, iv p1, iv p2, iv p3, iv p4, iv 4, iv c0_, iv c1_, iv c2_, iv c3_, rv cs, uu, uu, uu] [(.int c1_), (.int 1), (.ref cs)])) rfl rfl (hb hby at_65)
    have K := K.wr W60 (Or.inr ge_cs)
    have sw : Safe Z oEL _ _ cs := sf_cs
    have sf_cs := Safe.wr W60 sw B.2.1 sf_cs
    have B := B.wr W60 sw
    have V_cs := Arv.set Ar60 q60 Sz60 Nn60 Hs60 Ft60 (fits_nar_char _) W60 1 rfl (Nat.le_of_ble_eq_true rfl)
    rw [show nar .char c1_ = c1_ from oChrU r_c1_] at V_cs
    replace V_cs : Arv Z h cs k58 .char (4 : Int32) [(.int c0_), (.int c1_), (.int (0 : Int32)), (.int (0 : Int32))] (.int (0 : Int32)) := V_cs
    refine oWk.to (mkF m 77 #[iv p0, iv p1, iv p2, iv p3, iv p4, iv 4, iv c0_, iv c1_, iv c2_, iv c3_, rv cs, uu, uu, uu] [(.int c2_), (.int 2), (.ref cs)]) (fun _ kt => st _ (zJ X hx hby at_66 rfl rfl (zK X hx hby at_68 rfl (zN X hx hby at_69 rfl rfl (tlt (by decide)).2.2.2 (zB X hx hby at_72 rfl rfl rfl (zK X hx hby at_74 rfl (zJ X hx hby at_75 rfl rfl kt))))))) ?_
    obtain ⟨cl61, Ar61, q61, Sz61, Nn61, Hs61, Ft61⟩ := id V_cs
    have hin61 : ¬ ((2 : Int32) < 0 ∨ cl61.slots.size ≤ ((2 : Int32)).toNatClampNeg) := inb_of Sz61 ⟨by decide, by decide⟩
    obtain ⟨T, h, X, e0, W61, st⟩ := stC X hx hZ e0 Ar61 (j := (2 : Int32)) hin61 (g := (mkF m 77 #[iv p0, iv p1, iv p2, iv p3, iv p4, iv 4, iv c0_, iv c1_, iv c2_, iv c3_, rv cs, uu, uu, uu] [(.int c2_), (.int 2), (.ref cs)])) rfl rfl (hb hby at_77)
    have K := K.wr W61 (Or.inr ge_cs)
    have sw : Safe Z oEL _ _ cs := sf_cs
    have sf_cs := Safe.wr W61 sw B.2.1 sf_cs
    have B := B.wr W61 sw
    have V_cs := Arv.set Ar61 q61 Sz61 Nn61 Hs61 Ft61 (fits_nar_char _) W61 2 rfl (Nat.le_of_ble_eq_true rfl)
    rw [show nar .char c2_ = c2_ from oChrU r_c2_] at V_cs
    replace V_cs : Arv Z h cs k58 .char (4 : Int32) [(.int c0_), (.int c1_), (.int c2_), (.int (0 : Int32))] (.int (0 : Int32)) := V_cs
    refine oWk.to (mkF m 89 #[iv p0, iv p1, iv p2, iv p3, iv p4, iv 4, iv c0_, iv c1_, iv c2_, iv c3_, rv cs, uu, uu, uu] [(.int c3_), (.int 3), (.ref cs)]) (fun _ kt => st _ (zJ X hx hby at_78 rfl rfl (zK X hx hby at_80 rfl (zN X hx hby at_81 rfl rfl (tlt (by decide)).2.2.2 (zB X hx hby at_84 rfl rfl rfl (zK X hx hby at_86 rfl (zJ X hx hby at_87 rfl rfl kt))))))) ?_
    obtain ⟨cl62, Ar62, q62, Sz62, Nn62, Hs62, Ft62⟩ := id V_cs
    have hin62 : ¬ ((3 : Int32) < 0 ∨ cl62.slots.size ≤ ((3 : Int32)).toNatClampNeg) := inb_of Sz62 ⟨by decide, by decide⟩
    obtain ⟨T, h, X, e0, W62, st⟩ := stC X hx hZ e0 Ar62 (j := (3 : Int32)) hin62 (g := (mkF m 89 #[iv p0, iv p1, iv p2, iv p3, iv p4, iv 4, iv c0_, iv c1_, iv c2_, iv c3_, rv cs, uu, uu, uu] [(.int c3_), (.int 3), (.ref cs)])) rfl rfl (hb hby at_89)
    have K := K.wr W62 (Or.inr ge_cs)
    have sw : Safe Z oEL _ _ cs := sf_cs
    have sf_cs := Safe.wr W62 sw B.2.1 sf_cs
    have B := B.wr W62 sw
    have V_cs := Arv.set Ar62 q62 Sz62 Nn62 Hs62 Ft62 (fits_nar_char _) W62 3 rfl (Nat.le_of_ble_eq_true rfl)
    rw [show nar .char c3_ = c3_ from oChrU r_c3_] at V_cs
    replace V_cs : Arv Z h cs k58 .char (4 : Int32) [(.int c0_), (.int c1_), (.int c2_), (.int c3_)] (.int (0 : Int32)) := V_cs
    refine oWk.to (mkF m 116 #[iv p0, iv p1, iv p2, iv p3, iv p4, iv 4, iv c0_, iv c1_, iv c2_, iv c3_, rv cs, uu, uu, uu] [(.int 4)]) (fun _ kt => st _ (zJ X hx hby at_90 rfl rfl (zF X hx hby at_92 rfl rfl ((if0 _ _).trans (feq (by decide)).2) (pc' := 101) rfl (zJ X hx hby at_101 rfl rfl (zK X hx hby at_103 rfl (zY X hx hby at_104 rfl rfl (feq (by decide)).2 (pc' := 114) rfl (zJ X hx hby at_114 rfl rfl kt))))))) ?_
    refine oWk.to (mkF m 144 #[iv p0, iv p1, iv p2, iv p3, iv p4, iv 4, iv c0_, iv c1_, iv c2_, iv c3_, rv cs, uu, iv c3_, uu] []) (fun _ kt => zK X hx hby at_116 rfl (zY X hx hby at_117 rfl rfl (feq (by decide)).2 (pc' := 127) rfl (zJ X hx hby at_127 rfl rfl (zK X hx hby at_129 rfl (zY X hx hby at_130 rfl rfl (feq (by decide)).2 (pc' := 140) rfl (zJ X hx hby at_140 rfl rfl (zS X hx hby at_142 rfl rfl (l' := #[iv p0, iv p1, iv p2, iv p3, iv p4, iv 4, iv c0_, iv c1_, iv c2_, iv c3_, rv cs, uu, iv c3_, uu]) rfl kt))))))) ?_
    refine oWk.st (fun _ kt => zJ X hx hby at_144 rfl rfl kt) ?_
    have Oh := K.old O0 all0
    obtain ⟨T, L64, X, e0, K, st⟩ := (cs24 hw).pure X hx hZ hown e0 K (A := [(.int c0_)]) rfl (rPl l Z a0 hw [] c0_ h Oh ) (fun _ _ _ q => q) (W := 0) (by decide) hml (Ls := #[iv p0, iv p1, iv p2, iv p3, iv p4, iv 4, iv c0_, iv c1_, iv c2_, iv c3_, rv cs, uu, iv c3_, uu]) rfl (rest := []) rfl rfl hby at_146
    refine oWk.to (mkF m 149 #[iv p0, iv p1, iv p2, iv p3, iv p4, iv 4, iv c0_, iv c1_, iv c2_, iv c3_, rv cs, uu, iv c3_, uu] [(.int (oBi (oPl c0_)))]) (fun _ kt => st _ kt) ?_
    have J199 : ∀ (ao : Int32), ao = oBi (oPl c0_ ∧ oPl c1_ ∧ oPl c2_ ∧ oPl c3_) → ∀ (T' : State) (L' : List Loc), oStd X T' L' → T'.heap = h → oKp h0 h [] L' → oWk p.tables e below (oDnH Z oEL s h0 below (Q_rLaw Z p0 p1 p2 p3 p4 xfm xz h0) room_1.cells room_1.slots) T' (mkF m 199 #[iv p0, iv p1, iv p2, iv p3, iv p4, iv 4, iv c0_, iv c1_, iv c2_, iv c3_, rv cs, uu, iv c3_, uu] [(.int ao)]) := by
      intro ao hao T LJ X e0 K
      have X : Stand p l e _ _ m _ below meth c T LJ _ _ := X
      subst hao
      show oWk _ _ _ _ T (mkF m 199 #[iv p0, iv p1, iv p2, iv p3, iv p4, iv 4, iv c0_, iv c1_, iv c2_, iv c3_, rv cs, uu, iv c3_, uu] [(.int (oBi (oPl c0_ ∧ oPl c1_ ∧ oPl c2_ ∧ oPl c3_)))])
      refine oWk.to (mkF m 205 #[iv p0, iv p1, iv p2, iv p3, iv p4, iv 4, iv c0_, iv c1_, iv c2_, iv c3_, rv cs, uu, iv c3_, iv (oBi (oPl c0_ ∧ oPl c1_ ∧ oPl c2_ ∧ oPl c3_))] [(.int 46), (.int c3_)]) (fun _ kt => zS X hx hby at_199 rfl rfl (l' := #[iv p0, iv p1, iv p2, iv p3, iv p4, iv 4, iv c0_, iv c1_, iv c2_, iv c3_, rv cs, uu, iv c3_, iv (oBi (oPl c0_ ∧ oPl c1_ ∧ oPl c2_ ∧ oPl c3_))]) rfl (zJ X hx hby at_201 rfl rfl (zL X hx hby at_203 rfl kt))) ?_
      have J225 : ∀ (ex : Int32), ex = oBi (¬ c3_ = (46 : Int32) ∧ ¬ c3_ = (32 : Int32) ∧ oPl c0_ ∧ oPl c1_ ∧ oPl c2_ ∧ oPl c3_) → oWk p.tables e below (oDnH Z oEL s h0 below (Q_rLaw Z p0 p1 p2 p3 p4 xfm xz h0) room_1.cells room_1.slots) T (mkF m 225 #[iv p0, iv p1, iv p2, iv p3, iv p4, iv 4, iv c0_, iv c1_, iv c2_, iv c3_, rv cs, uu, iv c3_, iv (oBi (oPl c0_ ∧ oPl c1_ ∧ oPl c2_ ∧ oPl c3_))] [(.int ex)]) := by
        intro ex hex
        subst hex
        show oWk _ _ _ _ T (mkF m 225 #[iv p0, iv p1, iv p2, iv p3, iv p4, iv 4, iv c0_, iv c1_, iv c2_, iv c3_, rv cs, uu, iv c3_, iv (oBi (oPl c0_ ∧ oPl c1_ ∧ oPl c2_ ∧ oPl c3_))] [(.int (oBi (¬ c3_ = (46 : Int32) ∧ ¬ c3_ = (32 : Int32) ∧ oPl c0_ ∧ oPl c1_ ∧ oPl c2_ ∧ oPl c3_)))])
        refine oWk.to (mkF m 227 #[iv p0, iv p1, iv p2, iv p3, iv p4, iv 4, iv c0_, iv c1_, iv c2_, iv c3_, rv cs, iv (oBi (¬ c3_ = (46 : Int32) ∧ ¬ c3_ = (32 : Int32) ∧ oPl c0_ ∧ oPl c1_ ∧ oPl c2_ ∧ oPl c3_)), iv c3_, iv (oBi (oPl c0_ ∧ oPl c1_ ∧ oPl c2_ ∧ oPl c3_))] []) (fun _ kt => zS X hx hby at_225 rfl rfl (l' := #[iv p0, iv p1, iv p2, iv p3, iv p4, iv 4, iv c0_, iv c1_, iv c2_, iv c3_, rv cs, iv (oBi (¬ c3_ = (46 : Int32) ∧ ¬ c3_ = (32 : Int32) ∧ oPl c0_ ∧ oPl c1_ ∧ oPl c2_ ∧ oPl c3_)), iv c3_, iv (oBi (oPl c0_ ∧ oPl c1_ ∧ oPl c2_ ∧ oPl c3_))]) rfl kt) ?_
        rcases oLU4 c0_ c1_ c2_ c3_ with ⟨hl0, hl1, hl2, hl3⟩ | hU
        · show oWk _ _ _ _ T (mkF m 227 #[iv p0, iv p1, iv p2, iv p3, iv p4, iv 4, iv c0_, iv c1_, iv c2_, iv c3_, rv cs, iv (oBi (¬ c3_ = (46 : Int32) ∧ ¬ c3_ = (32 : Int32) ∧ oPl c0_ ∧ oPl c1_ ∧ oPl c2_ ∧ oPl c3_)), iv c3_, iv (oBi (oPl c0_ ∧ oPl c1_ ∧ oPl c2_ ∧ oPl c3_))] [])
          obtain ⟨so, g65⟩ : ∃ z, z = h.size := ⟨_, rfl⟩
          have ne_cs_so : cs ≠ so := Nat.ne_of_lt (Nat.lt_of_lt_of_le V_cs.lt (Nat.le_of_eq g65.symm))
          have ge_so : h0.size ≤ so := Nat.le_trans K.le (Nat.le_of_eq g65.symm)
          have sf_so := B.new (Nat.le_of_eq g65.symm)
          obtain ⟨T, h, X, e0, E65, A65, D65, -, st⟩ := newO X hx hZ hown (oW hw 3 rfl) (oW hw 4 rfl) (oW hw 5 rfl) e0 (g := (mkF m 227 #[iv p0, iv p1, iv p2, iv p3, iv p4, iv 4, iv c0_, iv c1_, iv c2_, iv c3_, rv cs, iv (oBi (¬ c3_ = (46 : Int32) ∧ ¬ c3_ = (32 : Int32) ∧ oPl c0_ ∧ oPl c1_ ∧ oPl c2_ ∧ oPl c3_)), iv c3_, iv (oBi (oPl c0_ ∧ oPl c1_ ∧ oPl c2_ ∧ oPl c3_))] [])) rfl (hb hby at_227) (by decide) (by decide)
          rw [← g65] at A65 D65 st
          have K := K.ext E65
          have sf_cs := Safe.ext E65 B.2.1 sf_cs
          have sf_so := Safe.ext E65 B.2.1 sf_so
          have B := B.ext E65
          have E_so := A65
          have F_value_so : Fld Z h so Y0 "value" "[B" .null := D65 (Or.inr (oW hw 18 rfl)) (ty := (.array .byte)) (by decide)
          have F_coder_so : Fld Z h so Y0 "coder" "B" (.int (0 : Int32)) := D65 (Or.inr (oW hw 19 rfl)) (ty := .byte) (by decide)
          refine oWk.st (fun _ kt => st _ (zD X hx hby at_230 rfl rfl rfl (zB X hx hby at_231 rfl rfl rfl kt))) ?_
          have V_cs := (V_cs.ext E65)
          have lt_cs := V_cs.lt
          have lt_so := E_so.lt
          have Oh := K.old O0 all0
          obtain ⟨_, T, h, Lc67, X, e0, hQ, st⟩ := (cs25 hw).run X hx hZ hown e0 (A := [(.ref so), (.ref cs)]) ⟨rfl, _, _, rfl⟩ (rI1_4 l Z a0 hw [] so cs k58 xz .null (.int (0 : Int32)) c0_ c1_ c2_ c3_ h Oh S_COMPACT_STRINGS hz (Nat.le_trans O0.1 ge_so) E_so F_value_so F_coder_so V_cs hl0 hl1 hl2 hl3) (W := 1) (by decide) hml (Ls := #[iv p0, iv p1, iv p2, iv p3, iv p4, iv 4, iv c0_, iv c1_, iv c2_, iv c3_, rv cs, iv (oBi (¬ c3_ = (46 : Int32) ∧ ¬ c3_ = (32 : Int32) ∧ oPl c0_ ∧ oPl c1_ ∧ oPl c2_ ∧ oPl c3_)), iv c3_, iv (oBi (oPl c0_ ∧ oPl c1_ ∧ oPl c2_ ∧ oPl c3_))]) rfl (rest := [(.ref so)]) rfl rfl hby at_233
          obtain ⟨sob, sobk, rfl, K66, E_so, F_coder_so, F_value_so, gn_sob, V_sob⟩ := hQ
          have ge_sob := Nat.le_trans K.le gn_sob
          have ne_cs_sob : cs ≠ sob := Nat.ne_of_lt (Nat.lt_of_lt_of_le lt_cs gn_sob)
          have ne_so_sob : so ≠ sob := Nat.ne_of_lt (Nat.lt_of_lt_of_le lt_so gn_sob)
          have K := K.call K66 (allS (Or.inr ge_so) all0)
          have sw : ∀ x ∈ ([so] : List Addr), Safe Z oEL _ _ x := (sfS sf_so sf0)
          have sf_cs := Safe.keep K66.1 sw B.2.1 sf_cs
          have sf_so := Safe.keep K66.1 sw B.2.1 sf_so
          have B := B.keep K66.1 sw
          refine oWk.st (fun _ kt => st _ kt) ?_
          have Oh := K.old O0 all0
          obtain ⟨T, L69, X, e0, K, st⟩ := (cs23 hw).pure X hx hZ hown e0 K (A := [(.ref so)]) rfl (rSSL_4 l Z a0 hw [] so sob sobk xfm xz c0_ c1_ c2_ c3_ h Oh S_COMPACT_STRINGS hz S_SIOOBE_FORMATTER hcat E_so F_coder_so F_value_so V_sob (oLt256 r_c0_ hl0) (oLt256 r_c1_ hl1) (oLt256 r_c2_ hl2) (oLt256 r_c3_ hl3)) (fun _ _ _ q => q) (W := 0) (by decide) hml (Ls := #[iv p0, iv p1, iv p2, iv p3, iv p4, iv 4, iv c0_, iv c1_, iv c2_, iv c3_, rv cs, iv (oBi (¬ c3_ = (46 : Int32) ∧ ¬ c3_ = (32 : Int32) ∧ oPl c0_ ∧ oPl c1_ ∧ oPl c2_ ∧ oPl c3_)), iv c3_, iv (oBi (oPl c0_ ∧ oPl c1_ ∧ oPl c2_ ∧ oPl c3_))]) rfl (rest := []) rfl rfl hby at_236
          refine oWk.to (mkF m 249 #[iv p0, iv p1, iv p2, iv p3, iv p4, iv 4, iv c0_, iv c1_, iv c2_, iv c3_, rv cs, iv (oBi (¬ c3_ = (46 : Int32) ∧ ¬ c3_ = (32 : Int32) ∧ oPl c0_ ∧ oPl c1_ ∧ oPl c2_ ∧ oPl c3_)), iv c3_, iv (oBi (oPl c0_ ∧ oPl c1_ ∧ oPl c2_ ∧ oPl c3_))] [(.int 1)]) (fun _ kt => st _ (zJ X hx hby at_239 rfl rfl (zN X hx hby at_241 rfl rfl (teq rfl).2 (zK X hx hby at_244 rfl (zG X hx hby at_245 rfl (pc' := 249) rfl kt))))) ?_
          exact oRetH X hx hlk hZ (oELw hw) e0 B hret (oNar01 (Or.inr rfl)) (Or.inl ⟨rfl, Or.inr (Or.inl rfl), _, rfl⟩) (hb hby at_249) (by rw [e0]; exact ⟨rfl, K.fr⟩) (by decide) (by decide)
        · show oWk _ _ _ _ T (mkF m 227 #[iv p0, iv p1, iv p2, iv p3, iv p4, iv 4, iv c0_, iv c1_, iv c2_, iv c3_, rv cs, iv (oBi (¬ c3_ = (46 : Int32) ∧ ¬ c3_ = (32 : Int32) ∧ oPl c0_ ∧ oPl c1_ ∧ oPl c2_ ∧ oPl c3_)), iv c3_, iv (oBi (oPl c0_ ∧ oPl c1_ ∧ oPl c2_ ∧ oPl c3_))] [])
          obtain ⟨so, g70⟩ : ∃ z, z = h.size := ⟨_, rfl⟩
          have ne_cs_so : cs ≠ so := Nat.ne_of_lt (Nat.lt_of_lt_of_le V_cs.lt (Nat.le_of_eq g70.symm))
          have ge_so : h0.size ≤ so := Nat.le_trans K.le (Nat.le_of_eq g70.symm)
          have sf_so := B.new (Nat.le_of_eq g70.symm)
          obtain ⟨T, h, X, e0, E70, A70, D70, -, st⟩ := newO X hx hZ hown (oW hw 3 rfl) (oW hw 4 rfl) (oW hw 5 rfl) e0 (g := (mkF m 227 #[iv p0, iv p1, iv p2, iv p3, iv p4, iv 4, iv c0_, iv c1_, iv c2_, iv c3_, rv cs, iv (oBi (¬ c3_ = (46 : Int32) ∧ ¬ c3_ = (32 : Int32) ∧ oPl c0_ ∧ oPl c1_ ∧ oPl c2_ ∧ oPl c3_)), iv c3_, iv (oBi (oPl c0_ ∧ oPl c1_ ∧ oPl c2_ ∧ oPl c3_))] [])) rfl (hb hby at_227) (by decide) (by decide)
          rw [← g70] at A70 D70 st
          have K := K.ext E70
          have sf_cs := Safe.ext E70 B.2.1 sf_cs
          have sf_so := Safe.ext E70 B.2.1 sf_so
          have B := B.ext E70
          have E_so := A70
          have F_value_so : Fld Z h so Y0 "value" "[B" .null := D70 (Or.inr (oW hw 18 rfl)) (ty := (.array .byte)) (by decide)
          have F_coder_so : Fld Z h so Y0 "coder" "B" (.int (0 : Int32)) := D70 (Or.inr (oW hw 19 rfl)) (ty := .byte) (by decide)
          refine oWk.st (fun _ kt => st _ (zD X hx hby at_230 rfl rfl rfl (zB X hx hby at_231 rfl rfl rfl kt))) ?_
          have V_cs := (V_cs.ext E70)
          have lt_cs := V_cs.lt
          have lt_so := E_so.lt
          have Oh := K.old O0 all0
          obtain ⟨_, T, h, Lc72, X, e0, hQ, st⟩ := (cs25 hw).run X hx hZ hown e0 (A := [(.ref so), (.ref cs)]) ⟨rfl, _, _, rfl⟩ (rI1U_4 l Z a0 hw [] so cs k58 xz .null (.int (0 : Int32)) c0_ c1_ c2_ c3_ h Oh S_COMPACT_STRINGS hz S__assertionsDisabled S_HI_BYTE_SHIFT S_LO_BYTE_SHIFT (Nat.le_trans O0.1 ge_so) E_so F_value_so F_coder_so V_cs r_c0_ r_c1_ r_c2_ r_c3_ hU) (W := 1) (by decide) hml (Ls := #[iv p0, iv p1, iv p2, iv p3, iv p4, iv 4, iv c0_, iv c1_, iv c2_, iv c3_, rv cs, iv (oBi (¬ c3_ = (46 : Int32) ∧ ¬ c3_ = (32 : Int32) ∧ oPl c0_ ∧ oPl c1_ ∧ oPl c2_ ∧ oPl c3_)), iv c3_, iv (oBi (oPl c0_ ∧ oPl c1_ ∧ oPl c2_ ∧ oPl c3_))]) rfl (rest := [(.ref so)]) rfl rfl hby at_233
          obtain ⟨sob, sobk, rfl, K71, E_so, F_coder_so, F_value_so, gn_sob, V_sob⟩ := hQ
          have ge_sob := Nat.le_trans K.le gn_sob
          have ne_cs_sob : cs ≠ sob := Nat.ne_of_lt (Nat.lt_of_lt_of_le lt_cs gn_sob)
          have ne_so_sob : so ≠ sob := Nat.ne_of_lt (Nat.lt_of_lt_of_le lt_so gn_sob)
          have K := K.call K71 (allS (Or.inr ge_so) all0)
          have sw : ∀ x ∈ ([so] : List Addr), Safe Z oEL _ _ x := (sfS sf_so sf0)
          have sf_cs := Safe.keep K71.1 sw B.2.1 sf_cs
          have sf_so := Safe.keep K71.1 sw B.2.1 sf_so
          have B := B.keep K71.1 sw
          refine oWk.st (fun _ kt => st _ kt) ?_
          have Oh := K.old O0 all0
          obtain ⟨T, L74, X, e0, K, st⟩ := (cs23 hw).pure X hx hZ hown e0 K (A := [(.ref so)]) rfl (rSSU_4 l Z a0 hw [] so sob sobk xfm xz c0_ c1_ c2_ c3_ h Oh S_COMPACT_STRINGS hz S__assertionsDisabled S_HI_BYTE_SHIFT S_LO_BYTE_SHIFT S_SIOOBE_FORMATTER hcat E_so F_coder_so F_value_so V_sob r_c0_ r_c1_ r_c2_ r_c3_) (fun _ _ _ q => q) (W := 0) (by decide) hml (Ls := #[iv p0, iv p1, iv p2, iv p3, iv p4, iv 4, iv c0_, iv c1_, iv c2_, iv c3_, rv cs, iv (oBi (¬ c3_ = (46 : Int32) ∧ ¬ c3_ = (32 : Int32) ∧ oPl c0_ ∧ oPl c1_ ∧ oPl c2_ ∧ oPl c3_)), iv c3_, iv (oBi (oPl c0_ ∧ oPl c1_ ∧ oPl c2_ ∧ oPl c3_))]) rfl (rest := []) rfl rfl hby at_236
          refine oWk.to (mkF m 249 #[iv p0, iv p1, iv p2, iv p3, iv p4, iv 4, iv c0_, iv c1_, iv c2_, iv c3_, rv cs, iv (oBi (¬ c3_ = (46 : Int32) ∧ ¬ c3_ = (32 : Int32) ∧ oPl c0_ ∧ oPl c1_ ∧ oPl c2_ ∧ oPl c3_)), iv c3_, iv (oBi (oPl c0_ ∧ oPl c1_ ∧ oPl c2_ ∧ oPl c3_))] [(.int 1)]) (fun _ kt => st _ (zJ X hx hby at_239 rfl rfl (zN X hx hby at_241 rfl rfl (teq rfl).2 (zK X hx hby at_244 rfl (zG X hx hby at_245 rfl (pc' := 249) rfl kt))))) ?_
          exact oRetH X hx hlk hZ (oELw hw) e0 B hret (oNar01 (Or.inr rfl)) (Or.inl ⟨rfl, Or.inr (Or.inl rfl), _, rfl⟩) (hb hby at_249) (by rw [e0]; exact ⟨rfl, K.fr⟩) (by decide) (by decide)
      by_cases hc205 : c3_ = (46 : Int32)
      · refine oWk.to (mkF m 224 #[iv p0, iv p1, iv p2, iv p3, iv p4, iv 4, iv c0_, iv c1_, iv c2_, iv c3_, rv cs, uu, iv c3_, iv (oBi (oPl c0_ ∧ oPl c1_ ∧ oPl c2_ ∧ oPl c3_))] []) (fun _ kt => zY X hx hby at_205 rfl rfl (teq hc205).1 (pc' := 224) rfl kt) ?_
        refine oWk.to (mkF m 225 #[iv p0, iv p1, iv p2, iv p3, iv p4, iv 4, iv c0_, iv c1_, iv c2_, iv c3_, rv cs, uu, iv c3_, iv (oBi (oPl c0_ ∧ oPl c1_ ∧ oPl c2_ ∧ oPl c3_))] [(.int 0)]) (fun _ kt => zK X hx hby at_224 rfl kt) ?_
        exact J225 _ (oBi_f (fun q => q.1 hc205)).symm
      · refine oWk.to (mkF m 208 #[iv p0, iv p1, iv p2, iv p3, iv p4, iv 4, iv c0_, iv c1_, iv c2_, iv c3_, rv cs, uu, iv c3_, iv (oBi (oPl c0_ ∧ oPl c1_ ∧ oPl c2_ ∧ oPl c3_))] []) (fun _ kt => zN X hx hby at_205 rfl rfl (feq hc205).1 kt) ?_
        refine oWk.to (mkF m 212 #[iv p0, iv p1, iv p2, iv p3, iv p4, iv 4, iv c0_, iv c1_, iv c2_, iv c3_, rv cs, uu, iv c3_, iv (oBi (oPl c0_ ∧ oPl c1_ ∧ oPl c2_ ∧ oPl c3_))] [(.int 32), (.int c3_)]) (fun _ kt => zJ X hx hby at_208 rfl rfl (zL X hx hby at_210 rfl kt)) ?_
        by_cases hc212 : c3_ = (32 : Int32)
        · refine oWk.to (mkF m 224 #[iv p0, iv p1, iv p2, iv p3, iv p4, iv 4, iv c0_, iv c1_, iv c2_, iv c3_, rv cs, uu, iv c3_, iv (oBi (oPl c0_ ∧ oPl c1_ ∧ oPl c2_ ∧ oPl c3_))] []) (fun _ kt => zY X hx hby at_212 rfl rfl (teq hc212).1 (pc' := 224) rfl kt) ?_
          refine oWk.to (mkF m 225 #[iv p0, iv p1, iv p2, iv p3, iv p4, iv 4, iv c0_, iv c1_, iv c2_, iv c3_, rv cs, uu, iv c3_, iv (oBi (oPl c0_ ∧ oPl c1_ ∧ oPl c2_ ∧ oPl c3_))] [(.int 0)]) (fun _ kt => zK X hx hby at_224 rfl kt) ?_
          exact J225 _ (oBi_f (fun q => q.2.1 hc212)).symm
        · refine oWk.to (mkF m 215 #[iv p0, iv p1, iv p2, iv p3, iv p4, iv 4, iv c0_, iv c1_, iv c2_, iv c3_, rv cs, uu, iv c3_, iv (oBi (oPl c0_ ∧ oPl c1_ ∧ oPl c2_ ∧ oPl c3_))] []) (fun _ kt => zN X hx hby at_212 rfl rfl (feq hc212).1 kt) ?_
          refine oWk.to (mkF m 217 #[iv p0, iv p1, iv p2, iv p3, iv p4, iv 4, iv c0_, iv c1_, iv c2_, iv c3_, rv cs, uu, iv c3_, iv (oBi (oPl c0_ ∧ oPl c1_ ∧ oPl c2_ ∧ oPl c3_))] [(.int (oBi (oPl c0_ ∧ oPl c1_ ∧ oPl c2_ ∧ oPl c3_)))]) (fun _ kt => zJ X hx hby at_215 rfl rfl kt) ?_
          by_cases hc217 : oPl c0_ ∧ oPl c1_ ∧ oPl c2_ ∧ oPl c3_
          · refine oWk.to (mkF m 220 #[iv p0, iv p1, iv p2, iv p3, iv p4, iv 4, iv c0_, iv c1_, iv c2_, iv c3_, rv cs, uu, iv c3_, iv (oBi (oPl c0_ ∧ oPl c1_ ∧ oPl c2_ ∧ oPl c3_))] []) (fun _ kt => zH X hx hby at_217 rfl rfl ((if0 _ _).trans (feq (oBi_ne hc217)).1) kt) ?_
            refine oWk.to (mkF m 225 #[iv p0, iv p1, iv p2, iv p3, iv p4, iv 4, iv c0_, iv c1_, iv c2_, iv c3_, rv cs, uu, iv c3_, iv (oBi (oPl c0_ ∧ oPl c1_ ∧ oPl c2_ ∧ oPl c3_))] [(.int 1)]) (fun _ kt => zK X hx hby at_220 rfl (zG X hx hby at_221 rfl (pc' := 225) rfl kt)) ?_
            exact J225 _ (oBi_t ⟨hc205, hc212, hc217⟩).symm
          · refine oWk.to (mkF m 224 #[iv p0, iv p1, iv p2, iv p3, iv p4, iv 4, iv c0_, iv c1_, iv c2_, iv c3_, rv cs, uu, iv c3_, iv (oBi (oPl c0_ ∧ oPl c1_ ∧ oPl c2_ ∧ oPl c3_))] []) (fun _ kt => zF X hx hby at_217 rfl rfl ((if0 _ _).trans (teq (oBi_f hc217)).1) (pc' := 224) rfl kt) ?_
            refine oWk.to (mkF m 225 #[iv p0, iv p1, iv p2, iv p3, iv p4, iv 4, iv c0_, iv c1_, iv c2_, iv c3_, rv cs, uu, iv c3_, iv (oBi (oPl c0_ ∧ oPl c1_ ∧ oPl c2_ ∧ oPl c3_))] [(.int 0)]) (fun _ kt => zK X hx hby at_224 rfl kt) ?_
            exact J225 _ (oBi_f (fun q => hc217 q.2.2)).symm
    by_cases hc149 : oPl c0_
    · refine oWk.to (mkF m 152 #[iv p0, iv p1, iv p2, iv p3, iv p4, iv 4, iv c0_, iv c1_, iv c2_, iv c3_, rv cs, uu, iv c3_, uu] []) (fun _ kt => zH X hx hby at_149 rfl rfl ((if0 _ _).trans (feq (oBi_ne hc149)).1) kt) ?_
      refine oWk.st (fun _ kt => zJ X hx hby at_152 rfl rfl (zK X hx hby at_154 rfl (zN X hx hby at_155 rfl rfl (flt (by decide)).1 (zJ X hx hby at_158 rfl rfl kt)))) ?_
      obtain ⟨T, L76, X, e0, K, st⟩ := (cs24 hw).pure X hx hZ hown e0 K (A := [(.int c1_)]) rfl (rPl l Z a0 hw [] c1_ h Oh ) (fun _ _ _ q => q) (W := 0) (by decide) hml (Ls := #[iv p0, iv p1, iv p2, iv p3, iv p4, iv 4, iv c0_, iv c1_, iv c2_, iv c3_, rv cs, uu, iv c3_, uu]) rfl (rest := []) rfl rfl hby at_160
      refine oWk.to (mkF m 163 #[iv p0, iv p1, iv p2, iv p3, iv p4, iv 4, iv c0_, iv c1_, iv c2_, iv c3_, rv cs, uu, iv c3_, uu] [(.int (oBi (oPl c1_)))]) (fun _ kt => st _ kt) ?_
      by_cases hc163 : oPl c1_
      · refine oWk.to (mkF m 166 #[iv p0, iv p1, iv p2, iv p3, iv p4, iv 4, iv c0_, iv c1_, iv c2_, iv c3_, rv cs, uu, iv c3_, uu] []) (fun _ kt => zH X hx hby at_163 rfl rfl ((if0 _ _).trans (feq (oBi_ne hc163)).1) kt) ?_
        refine oWk.st (fun _ kt => zJ X hx hby at_166 rfl rfl (zK X hx hby at_168 rfl (zN X hx hby at_169 rfl rfl (flt (by decide)).1 (zJ X hx hby at_172 rfl rfl kt)))) ?_
        obtain ⟨T, L78, X, e0, K, st⟩ := (cs24 hw).pure X hx hZ hown e0 K (A := [(.int c2_)]) rfl (rPl l Z a0 hw [] c2_ h Oh ) (fun _ _ _ q => q) (W := 0) (by decide) hml (Ls := #[iv p0, iv p1, iv p2, iv p3, iv p4, iv 4, iv c0_, iv c1_, iv c2_, iv c3_, rv cs, uu, iv c3_, uu]) rfl (rest := []) rfl rfl hby at_174
        refine oWk.to (mkF m 177 #[iv p0, iv p1, iv p2, iv p3, iv p4, iv 4, iv c0_, iv c1_, iv c2_, iv c3_, rv cs, uu, iv c3_, uu] [(.int (oBi (oPl c2_)))]) (fun _ kt => st _ kt) ?_
        by_cases hc177 : oPl c2_
        · refine oWk.to (mkF m 180 #[iv p0, iv p1, iv p2, iv p3, iv p4, iv 4, iv c0_, iv c1_, iv c2_, iv c3_, rv cs, uu, iv c3_, uu] []) (fun _ kt => zH X hx hby at_177 rfl rfl ((if0 _ _).trans (feq (oBi_ne hc177)).1) kt) ?_
          refine oWk.st (fun _ kt => zJ X hx hby at_180 rfl rfl (zK X hx hby at_182 rfl (zN X hx hby at_183 rfl rfl (flt (by decide)).1 (zJ X hx hby at_186 rfl rfl kt)))) ?_
          obtain ⟨T, L80, X, e0, K, st⟩ := (cs24 hw).pure X hx hZ hown e0 K (A := [(.int c3_)]) rfl (rPl l Z a0 hw [] c3_ h Oh ) (fun _ _ _ q => q) (W := 0) (by decide) hml (Ls := #[iv p0, iv p1, iv p2, iv p3, iv p4, iv 4, iv c0_, iv c1_, iv c2_, iv c3_, rv cs, uu, iv c3_, uu]) rfl (rest := []) rfl rfl hby at_188
          refine oWk.to (mkF m 191 #[iv p0, iv p1, iv p2, iv p3, iv p4, iv 4, iv c0_, iv c1_, iv c2_, iv c3_, rv cs, uu, iv c3_, uu] [(.int (oBi (oPl c3_)))]) (fun _ kt => st _ kt) ?_
          by_cases hc191 : oPl c3_
          · refine oWk.to (mkF m 194 #[iv p0, iv p1, iv p2, iv p3, iv p4, iv 4, iv c0_, iv c1_, iv c2_, iv c3_, rv cs, uu, iv c3_, uu] []) (fun _ kt => zH X hx hby at_191 rfl rfl ((if0 _ _).trans (feq (oBi_ne hc191)).1) kt) ?_
            refine oWk.to (mkF m 199 #[iv p0, iv p1, iv p2, iv p3, iv p4, iv 4, iv c0_, iv c1_, iv c2_, iv c3_, rv cs, uu, iv c3_, uu] [(.int 1)]) (fun _ kt => zK X hx hby at_194 rfl (zG X hx hby at_195 rfl (pc' := 199) rfl kt)) ?_
            exact J199 _ (oBi_t ⟨hc149, hc163, hc177, hc191⟩).symm T _ X e0 K
          · refine oWk.to (mkF m 198 #[iv p0, iv p1, iv p2, iv p3, iv p4, iv 4, iv c0_, iv c1_, iv c2_, iv c3_, rv cs, uu, iv c3_, uu] []) (fun _ kt => zF X hx hby at_191 rfl rfl ((if0 _ _).trans (teq (oBi_f hc191)).1) (pc' := 198) rfl kt) ?_
            refine oWk.to (mkF m 199 #[iv p0, iv p1, iv p2, iv p3, iv p4, iv 4, iv c0_, iv c1_, iv c2_, iv c3_, rv cs, uu, iv c3_, uu] [(.int 0)]) (fun _ kt => zK X hx hby at_198 rfl kt) ?_
            exact J199 _ (oBi_f (fun q => hc191 q.2.2.2)).symm T _ X e0 K
        · refine oWk.to (mkF m 198 #[iv p0, iv p1, iv p2, iv p3, iv p4, iv 4, iv c0_, iv c1_, iv c2_, iv c3_, rv cs, uu, iv c3_, uu] []) (fun _ kt => zF X hx hby at_177 rfl rfl ((if0 _ _).trans (teq (oBi_f hc177)).1) (pc' := 198) rfl kt) ?_
          refine oWk.to (mkF m 199 #[iv p0, iv p1, iv p2, iv p3, iv p4, iv 4, iv c0_, iv c1_, iv c2_, iv c3_, rv cs, uu, iv c3_, uu] [(.int 0)]) (fun _ kt => zK X hx hby at_198 rfl kt) ?_
          exact J199 _ (oBi_f (fun q => hc177 q.2.2.1)).symm T _ X e0 K
      · refine oWk.to (mkF m 198 #[iv p0, iv p1, iv p2, iv p3, iv p4, iv 4, iv c0_, iv c1_, iv c2_, iv c3_, rv cs, uu, iv c3_, uu] []) (fun _ kt => zF X hx hby at_163 rfl rfl ((if0 _ _).trans (teq (oBi_f hc163)).1) (pc' := 198) rfl kt) ?_
        refine oWk.to (mkF m 199 #[iv p0, iv p1, iv p2, iv p3, iv p4, iv 4, iv c0_, iv c1_, iv c2_, iv c3_, rv cs, uu, iv c3_, uu] [(.int 0)]) (fun _ kt => zK X hx hby at_198 rfl kt) ?_
        exact J199 _ (oBi_f (fun q => hc163 q.2.1)).symm T _ X e0 K
    · refine oWk.to (mkF m 198 #[iv p0, iv p1, iv p2, iv p3, iv p4, iv 4, iv c0_, iv c1_, iv c2_, iv c3_, rv cs, uu, iv c3_, uu] []) (fun _ kt => zF X hx hby at_149 rfl rfl ((if0 _ _).trans (teq (oBi_f hc149)).1) (pc' := 198) rfl kt) ?_
      refine oWk.to (mkF m 199 #[iv p0, iv p1, iv p2, iv p3, iv p4, iv 4, iv c0_, iv c1_, iv c2_, iv c3_, rv cs, uu, iv c3_, uu] [(.int 0)]) (fun _ kt => zK X hx hby at_198 rfl kt) ?_
      exact J199 _ (oBi_f (fun q => hc149 q.1)).symm T _ X e0 K
theorem comes_1 {Post : Tables → Env → Array Value → State → Outcome → State → Prop} (hpost : ∀ tb e args s v u, (limb_1_1.after args s (.returned v) u = true ∧ limb_1_2.after args s (.returned v) u = true ∧ True) → ReturnedEndW s (.returned v) u (Jvm.fieldLocs frame_1_writes args s ++ Jvm.arrayLocs frame_1_arrays args s ++ Jvm.staticLocs frame_1_statics s) 24 1152 → Post tb e args s (.returned v) u) :
    ArmFor flags0 classFile x code maxLocals ret World_1 tables_1 room_1 Calls_1 rest_1 Pre_1 Post := by
  intro l hfl _ _ p e ha hc hk s m args below hf hA hF happ hP
  obtain ⟨hcalls, hrest, hpre⟩ := hP
  obtain ⟨-, -, -, hnamed, -, -, -, hat⟩ := (Spec.applies_iff hf).mp happ
  obtain ⟨hg, hn⟩ := and_e (Cond.before_iff.mp (show (Jvm.Cond.and given_1 narrow_1).before args s = true from hpre))
  obtain ⟨n1, n2⟩ := and_e hg
  obtain ⟨n3, n4⟩ := and_e n2
  obtain ⟨n5, n6⟩ := and_e n4
  obtain ⟨n7, n8⟩ := and_e n6
  obtain ⟨n9, n10⟩ := and_e n8
  obtain ⟨w0, w1, w2, w3, w4, rfl⟩ : ∃ w0 w1 w2 w3 w4 : Value, args = #[w0, w1, w2, w3, w4] := by
    have hs : args.size = 5 := by simpa [Cond.value, given_1] using n1
    obtain ⟨L⟩ := args
    match L, hs with
    | [w0, w1, w2, w3, w4], _ => exact ⟨w0, w1, w2, w3, w4, rfl⟩
  have hw := fun d (hd : d ∈ tables_1) => atoms_spec (ws := Jvm.Cond.code x code maxLocals ret :: tables_1) hat d (List.mem_cons_of_mem _ hd)
  have hfit : Fit s := fun {y c} hc i hi => by
    obtain ⟨ha, rfl⟩ := Array.getElem?_eq_some_iff.mp hc
    have q := List.all_eq_true.mp ((Array.all_eq_true_iff_forall_mem.mp hF) _ (Array.getElem_mem ha)) i (List.mem_range.mpr hi)
    simpa [Array.getElem?_eq_getElem hi] using q
  obtain ⟨hsets, hown0⟩ := atoms_of _ (rest_1_c_eq ▸ (show rest_1_c.before _ s = true from hrest))
  have hr0 := Cond.before_iff.mp hown0
  obtain ⟨i0, ei0⟩ := is_v n3
  obtain rfl : w0 = (.int i0) := Option.some.inj ei0
  obtain ⟨i1, ei1⟩ := is_v n5
  obtain rfl : w1 = (.int i1) := Option.some.inj ei1
  obtain ⟨i2, ei2⟩ := is_v n7
  obtain rfl : w2 = (.int i2) := Option.some.inj ei2
  obtain ⟨i3, ei3⟩ := is_v n9
  obtain rfl : w3 = (.int i3) := Option.some.inj ei3
  obtain ⟨i4, ei4⟩ := is_v n10
  obtain rfl : w4 = (.int i4) := Option.some.inj ei4
  -- hn: (Jvm.Cond.tt)
  obtain ⟨xz, vz⟩ := is_v (Cond.before_iff.mp (hsets _ (List.mem_of_getElem? (i := 1) rfl)))
  have S_Z := Sta.start vz (Or.inl (hsets _ (List.mem_of_getElem? (i := 0) rfl)))
  have hz : ¬ xz = (0 : Int32) := oNot0 vz (Cond.before_iff.mp (hsets _ (List.mem_of_getElem? (i := 2) rfl)))
  obtain ⟨xfm, vfm, hfm⟩ := isR_v (Cond.before_iff.mp (hsets _ (List.mem_of_getElem? (i := 8) rfl)))
  have S_F := Sta.start vfm (Or.inl (hsets _ (List.mem_of_getElem? (i := 7) rfl)))
  have hcat := oCat hfm
  have SA := Sta.start (oStI (Cond.before_iff.mp (hsets _ (List.mem_of_getElem? (i := 12) rfl)))) (Or.inl (hsets _ (List.mem_of_getElem? (i := 11) rfl)))
  have SH := Sta.start (oStI (Cond.before_iff.mp (hsets _ (List.mem_of_getElem? (i := 15) rfl)))) (Or.inl (hsets _ (List.mem_of_getElem? (i := 14) rfl)))
  have SL := Sta.start (oStI (Cond.before_iff.mp (hsets _ (List.mem_of_getElem? (i := 18) rfl)))) (Or.inl (hsets _ (List.mem_of_getElem? (i := 17) rfl)))
  obtain ⟨n, o, h1, h2, h3, _, L, rfl, ⟨rfl, N⟩, -, hq⟩ := rLaw l s _ hw tables_1 i0 i1 i2 i3 i4 xfm xz s.heap (oExtRefl _) S_Z hz SA SH SL S_F hcat p e ha hc hk s m _ below hf ((Spec.applies_iff_loose hf).mp happ).1 ⟨rfl, State.Warmed39.refl s, rfl, (CHv.start (oELw hw) (fun q hq => by rcases List.mem_singleton.mp hq with rfl; exact hcalls.1 _ (List.mem_of_getElem? (i := 0) rfl)) (hsets _ (List.mem_of_getElem? (i := 2) rfl)) (oW hw 17 rfl) (oW hw 4 rfl)), (fun _ q => nomatch q)⟩ trivial
  refine ⟨n, _, h1, h2, h3, hpost _ _ _ _ _ _ ⟨Cond.after_iff.mpr rfl, Cond.after_iff.mpr (eq_i res_at (Term.int_eval (1)) rfl), trivial⟩ ⟨hq.1, hq.2.1, hq.2.2.1, (hq.2.2.2.sift fun y hy => Or.inr (N y hy)).mono (by decide) (by decide)⟩⟩
theorem main_1_1 : Claimed_1_1 := comes_1 fun _ _ _ _ _ _ h hF => ⟨h.1, hF⟩
theorem main_1_2 : Claimed_1_2 := comes_1 fun _ _ _ _ _ _ h hF => ⟨h.2.1, hF⟩
end Jvm.Pilot.@@N@@
namespace Jvm.Pilot.@@N@@
open Jvm Jvm.ClassFile Sem Op Lib Jvm.Free Jvm.Stand Jvm.Pilot.@@N@@.Jvm.D
/-! MADE BY PROGRAM (witnessworld.py) out of the Statement's table words and the real class files: 21 classes; the members and pool entries that the words name. The judged class is class 1, her method 1. -/
namespace start1
open Jvm.ClassFile
def u (s : String) : CpInfo := .utf8 (stringToUtf16 s)
/-- a pool by its gaps: so many unusable entries, then the entry; so many at the end -/
def gap : Nat → List CpInfo → List CpInfo
  | 0, r => r
  | n + 1, r => .unusable :: gap n r
def poolList (es : List (Nat × CpInfo)) (last : Nat) : List CpInfo := es.foldr (fun e r => gap e.1 (e.2 :: r)) (gap last [])
def pool (es : List (Nat × CpInfo)) (last : Nat) : Array CpInfo := ⟨poolList es last⟩
def fileOf (pool : Array CpInfo) (this : Nat) (attrs : Array Attribute := #[]) (ms : Array MethodInfo := #[]) (fl : Nat := 33) (sup : Nat := 0) (ifs : Array Nat := #[]) (fds : Array FieldInfo := #[]) : ClassFile where
  minorVersion := 0
  majorVersion := 65
  constantPool := pool
  accessFlags := fl
  thisClass := this
  superClass := sup
  interfaces := ifs
  fields := fds
  methods := ms
  attributes := attrs
def plain (name : String) (sup : Option ClassId) : Class where
  name := name
  kind := .ordinary
  loader := none
  accessFlags := 33
  super := sup
  interfaces := #[]
  cf := none
  fields := #[]
  methods := #[]
  instanceTypes := #[]
  staticTypes := #[]
  resolved := #[]
  callSites := []
  init := .initialized
  statics := none
  mirror := none

def pool0 : Array CpInfo := pool [(5, u "<init>"), (0, u "()V"), (1, .class_ 10), (1, u "java/lang/Object")] 113

def k0c0 : Code := { maxStack := 0, maxLocals := 1, code := object_method_1_code, exceptionTable := #[], attributes := #[] }
def k0m0 : Method := { name := "<init>", desc := "()V", sig := { parameters := [], returnType := none }, accessFlags := 1, code := some k0c0 }
/-- java/lang/Object -/
def k0 : Class := { plain "java/lang/Object" none with
  accessFlags := 33
  interfaces := #[]
  cf := some (fileOf pool0 8 #[] #[{ accessFlags := 1, nameIndex := 5, descriptorIndex := 6, attributes := #[] }] 33 0 #[] #[])
  fields := #[]
  methods := #[k0m0]
  instanceTypes := #[]
  staticTypes := #[]
  resolved := Array.replicate 124 none
  statics := none }

def pool1 : Array CpInfo := pool [(2, .class_ 4), (1, u "java/lang/Object"), (0, u "<init>"), (0, u "()V"), (0, .integer 2147483647), (0, .integer 65535), (0, .methodref 10 11), (0, .class_ 12), (0, .nameAndType 13 14), (0, u "com/example/modwright/modwright/install/InstanceFolderIsSafeSegmentPinLaw"), (0, u "plain"), (0, u "(C)Z"), (0, .class_ 16), (0, u "java/lang/String"), (0, .methodref 15 18), (0, .nameAndType 5 19), (0, u "([C)V"), (0, .methodref 21 22), (0, .class_ 23), (0, .nameAndType 24 25), (0, u "com/example/modwright/modwright/install/InstanceFolder"), (0, u "isSafeSegment"), (0, u "(Ljava/lang/String;)Z"), (2, u "law"), (0, u "(IIIII)Z")] 5

def k1m0 : Method := { name := "<init>", desc := "()V", sig := { parameters := [], returnType := none }, accessFlags := 1, code := none }
def k1c1 : Code := { maxStack := 3, maxLocals := 14, code := code, exceptionTable := #[], attributes := #[] }
def k1m1 : Method := { name := "law", desc := "(IIIII)Z", sig := { parameters := [.int, .int, .int, .int, .int], returnType := some .boolean }, accessFlags := 9, code := some k1c1 }
def k1c2 : Code := { maxStack := 2, maxLocals := 1, code := method_3_code, exceptionTable := #[], attributes := #[] }
def k1m2 : Method := { name := "plain", desc := "(C)Z", sig := { parameters := [.char], returnType := some .boolean }, accessFlags := 10, code := some k1c2 }
/-- com/example/modwright/modwright/install/InstanceFolderIsSafeSegmentPinLaw -/
def k1 : Class := { plain "com/example/modwright/modwright/install/InstanceFolderIsSafeSegmentPinLaw" (some 0) with
  accessFlags := 49
  interfaces := #[]
  cf := some (fileOf pool1 10 #[] #[{ accessFlags := 1, nameIndex := 5, descriptorIndex := 6, attributes := #[] }, { accessFlags := 9, nameIndex := 28, descriptorIndex := 29, attributes := #[] }, { accessFlags := 10, nameIndex := 13, descriptorIndex := 14, attributes := #[] }] 49 2 #[] #[])
  fields := #[]
  methods := #[k1m0, k1m1, k1m2]
  instanceTypes := #[]
  staticTypes := #[]
  resolved := Array.replicate 35 none
  statics := none }

def pool2 : Array CpInfo := pool [(1, .class_ 2), (0, u "java/io/Serializable"), (0, .class_ 4), (0, u "java/lang/Object")] 2

/-- java/io/Serializable -/
def k2 : Class := { plain "java/io/Serializable" (some 0) with
  accessFlags := 1537
  interfaces := #[]
  cf := some (fileOf pool2 1 #[] #[] 1537 3 #[] #[])
  fields := #[]
  methods := #[]
  instanceTypes := #[]
  staticTypes := #[]
  resolved := Array.replicate 7 none
  statics := none }

def pool3 : Array CpInfo := pool [(1, .class_ 2), (0, u "java/lang/Comparable"), (0, .class_ 4), (0, u "java/lang/Object")] 7

/-- java/lang/Comparable -/
def k3 : Class := { plain "java/lang/Comparable" (some 0) with
  accessFlags := 1537
  interfaces := #[]
  cf := some (fileOf pool3 1 #[] #[] 1537 3 #[] #[])
  fields := #[]
  methods := #[]
  instanceTypes := #[]
  staticTypes := #[]
  resolved := Array.replicate 12 none
  statics := none }

def pool4 : Array CpInfo := pool [(2, .class_ 4), (1, u "java/lang/CharSequence"), (42, .class_ 48), (0, u "java/lang/CharSequence$1CodePointIterator"), (10, .class_ 60), (0, u "java/lang/CharSequence$1CharIterator"), (5, .class_ 67), (0, u "java/lang/Object")] 63

/-- java/lang/CharSequence -/
def k4 : Class := { plain "java/lang/CharSequence" (some 0) with
  accessFlags := 1537
  interfaces := #[]
  cf := some (fileOf pool4 2 #[.nestMembers #[47, 59]] #[] 1537 66 #[] #[])
  fields := #[]
  methods := #[]
  instanceTypes := #[]
  staticTypes := #[]
  resolved := Array.replicate 131 none
  statics := none }

def pool5 : Array CpInfo := pool [(1, .class_ 2), (0, u "java/lang/constant/Constable"), (0, .class_ 4), (0, u "java/lang/Object")] 6

/-- java/lang/constant/Constable -/
def k5 : Class := { plain "java/lang/constant/Constable" (some 0) with
  accessFlags := 1537
  interfaces := #[]
  cf := some (fileOf pool5 1 #[] #[] 1537 3 #[] #[])
  fields := #[]
  methods := #[]
  instanceTypes := #[]
  staticTypes := #[]
  resolved := Array.replicate 11 none
  statics := none }

def pool6 : Array CpInfo := pool [(1, .class_ 2), (0, u "java/lang/constant/ConstantDesc"), (0, .class_ 4), (0, u "java/lang/Object")] 32

/-- java/lang/constant/ConstantDesc -/
def k6 : Class := { plain "java/lang/constant/ConstantDesc" (some 0) with
  accessFlags := 1537
  interfaces := #[]
  cf := some (fileOf pool6 1 #[] #[] 1537 3 #[] #[])
  fields := #[]
  methods := #[]
  instanceTypes := #[]
  staticTypes := #[]
  resolved := Array.replicate 37 none
  statics := none }

def pool7 : Array CpInfo := pool [(1, .methodref 2 3), (0, .class_ 4), (0, .nameAndType 5 6), (0, u "java/lang/Object"), (0, u "<init>"), (0, u "()V"), (0, .string 8), (0, u ""), (0, .fieldref 10 11), (0, .class_ 12), (0, .nameAndType 13 14), (0, u "java/lang/String"), (0, u "value"), (0, u "[B"), (0, .fieldref 10 16), (0, .nameAndType 17 18), (0, u "coder"), (0, u "B"), (2, u "hash"), (0, u "I"), (2, u "hashIsZero"), (0, u "Z"), (0, .methodref 10 28), (0, .nameAndType 5 29), (0, u "([CIILjava/lang/Void;)V"), (8, .fieldref 10 39), (0, .nameAndType 40 26), (0, u "COMPACT_STRINGS"), (1, .class_ 44), (1, u "java/lang/StringUTF16"), (0, u "compress"), (1, .methodref 42 48), (0, .nameAndType 49 50), (0, u "coderFromArrayLen"), (0, u "([BI)B"), (56, .class_ 109), (1, u "java/lang/StringLatin1"), (32, u "()Z"), (34, .methodref 42 178), (0, .nameAndType 45 179), (0, u "([CII)[B"), (154, u "()I"), (0, .methodref 10 336), (0, .nameAndType 17 337), (0, u "()B"), (25, u "([BI)C"), (27, u "(II)V"), (35, u "(I)C"), (64, .methodref 10 493), (0, .nameAndType 494 142), (0, u "isLatin1"), (0, .methodref 107 496), (0, .nameAndType 497 363), (0, u "charAt"), (0, .methodref 42 496), (2, u "checkIndex"), (5, u "length"), (67, .class_ 576), (0, u "java/lang/CharSequence"), (22, u "CASE_INSENSITIVE_ORDER"), (0, u "Ljava/util/Comparator;"), (91, u "isEmpty"), (317, u "([C)V"), (42, .fieldref 1054 1055), (0, .class_ 1056), (0, .nameAndType 1057 1058), (0, u "jdk/internal/util/Preconditions"), (0, u "SIOOBE_FORMATTER"), (0, u "Ljava/util/function/BiFunction;"), (0, .methodref 1054 1060), (0, .nameAndType 501 1061), (0, u "(IILjava/util/function/BiFunction;)I"), (39, u "serialPersistentFields"), (0, u "[Ljava/io/ObjectStreamField;"), (0, .class_ 1104), (0, u "java/lang/String$CaseInsensitiveComparator"), (1, .class_ 1107), (0, u "java/io/Serializable"), (0, .class_ 1109), (0, u "java/lang/Comparable"), (0, .class_ 1111), (0, u "java/lang/constant/Constable"), (0, .class_ 1113), (0, u "java/lang/constant/ConstantDesc"), (2, u "serialVersionUID"), (0, u "J"), (3, u "REPL"), (0, u "C"), (2, u "LATIN1"), (1, u "UTF16")] 323

def k7m0 : Method := { name := "<init>", desc := "()V", sig := { parameters := [], returnType := none }, accessFlags := 1, code := none }
def k7c1 : Code := { maxStack := 5, maxLocals := 2, code := jdk_42_method_3_code, exceptionTable := #[], attributes := #[] }
def k7m1 : Method := { name := "<init>", desc := "([C)V", sig := { parameters := [(.array .char)], returnType := none }, accessFlags := 1, code := some k7c1 }
def k7c2 : Code := { maxStack := 2, maxLocals := 1, code := jdk_42_method_54_code, exceptionTable := #[], attributes := #[] }
def k7m2 : Method := { name := "length", desc := "()I", sig := { parameters := [], returnType := some .int }, accessFlags := 1, code := some k7c2 }
def k7c3 : Code := { maxStack := 1, maxLocals := 1, code := jdk_42_method_55_code, exceptionTable := #[], attributes := #[] }
def k7m3 : Method := { name := "isEmpty", desc := "()Z", sig := { parameters := [], returnType := some .boolean }, accessFlags := 1, code := some k7c3 }
def k7c4 : Code := { maxStack := 2, maxLocals := 2, code := jdk_42_method_56_code, exceptionTable := #[], attributes := #[] }
def k7m4 : Method := { name := "charAt", desc := "(I)C", sig := { parameters := [.int], returnType := some .char }, accessFlags := 1, code := some k7c4 }
def k7c5 : Code := { maxStack := 4, maxLocals := 6, code := jdk_42_method_149_code, exceptionTable := #[], attributes := #[] }
def k7m5 : Method := { name := "<init>", desc := "([CIILjava/lang/Void;)V", sig := { parameters := [(.array .char), .int, .int, (.object "java/lang/Void")], returnType := none }, accessFlags := 2, code := some k7c5 }
def k7c6 : Code := { maxStack := 1, maxLocals := 1, code := jdk_42_method_152_code, exceptionTable := #[], attributes := #[] }
def k7m6 : Method := { name := "coder", desc := "()B", sig := { parameters := [], returnType := some .byte }, accessFlags := 0, code := some k7c6 }
def k7c7 : Code := { maxStack := 1, maxLocals := 1, code := jdk_42_method_154_code, exceptionTable := #[], attributes := #[] }
def k7m7 : Method := { name := "isLatin1", desc := "()Z", sig := { parameters := [], returnType := some .boolean }, accessFlags := 0, code := some k7c7 }
def k7c8 : Code := { maxStack := 3, maxLocals := 2, code := jdk_42_method_155_code, exceptionTable := #[], attributes := #[] }
def k7m8 : Method := { name := "checkIndex", desc := "(II)V", sig := { parameters := [.int, .int], returnType := none }, accessFlags := 8, code := some k7c8 }
/-- java/lang/String -/
def k7 : Class := { plain "java/lang/String" (some 0) with
  accessFlags := 49
  interfaces := #[2, 3, 4, 5, 6]
  cf := some (fileOf pool7 10 #[.nestMembers #[1103]] #[{ accessFlags := 1, nameIndex := 5, descriptorIndex := 6, attributes := #[] }, { accessFlags := 1, nameIndex := 5, descriptorIndex := 1010, attributes := #[] }, { accessFlags := 1, nameIndex := 507, descriptorIndex := 334, attributes := #[] }, { accessFlags := 1, nameIndex := 692, descriptorIndex := 142, attributes := #[] }, { accessFlags := 1, nameIndex := 497, descriptorIndex := 427, attributes := #[] }, { accessFlags := 2, nameIndex := 5, descriptorIndex := 29, attributes := #[] }, { accessFlags := 0, nameIndex := 17, descriptorIndex := 337, attributes := #[] }, { accessFlags := 0, nameIndex := 494, descriptorIndex := 142, attributes := #[] }, { accessFlags := 8, nameIndex := 501, descriptorIndex := 391, attributes := #[] }] 49 2 #[1106, 1108, 575, 1110, 1112] #[{ accessFlags := 18, nameIndex := 13, descriptorIndex := 14, attributes := #[] }, { accessFlags := 18, nameIndex := 17, descriptorIndex := 18, attributes := #[] }, { accessFlags := 2, nameIndex := 21, descriptorIndex := 22, attributes := #[] }, { accessFlags := 2, nameIndex := 25, descriptorIndex := 26, attributes := #[] }, { accessFlags := 26, nameIndex := 1116, descriptorIndex := 1117, attributes := #[] }, { accessFlags := 24, nameIndex := 40, descriptorIndex := 26, attributes := #[] }, { accessFlags := 26, nameIndex := 1101, descriptorIndex := 1102, attributes := #[] }, { accessFlags := 26, nameIndex := 1121, descriptorIndex := 1122, attributes := #[] }, { accessFlags := 25, nameIndex := 599, descriptorIndex := 600, attributes := #[] }, { accessFlags := 24, nameIndex := 1125, descriptorIndex := 18, attributes := #[] }, { accessFlags := 24, nameIndex := 1127, descriptorIndex := 18, attributes := #[] }])
  fields := #[{ name := "value", type := (.array .byte), accessFlags := 18, slot := 0, constantValue := 0 }, { name := "coder", type := .byte, accessFlags := 18, slot := 1, constantValue := 0 }, { name := "hash", type := .int, accessFlags := 2, slot := 2, constantValue := 0 }, { name := "hashIsZero", type := .boolean, accessFlags := 2, slot := 3, constantValue := 0 }, { name := "serialVersionUID", type := .long, accessFlags := 26, slot := 0, constantValue := 0 }, { name := "COMPACT_STRINGS", type := .boolean, accessFlags := 24, slot := 1, constantValue := 0 }, { name := "serialPersistentFields", type := (.array (.object "java/io/ObjectStreamField")), accessFlags := 26, slot := 2, constantValue := 0 }, { name := "REPL", type := .char, accessFlags := 26, slot := 3, constantValue := 0 }, { name := "CASE_INSENSITIVE_ORDER", type := (.object "java/util/Comparator"), accessFlags := 25, slot := 4, constantValue := 0 }, { name := "LATIN1", type := .byte, accessFlags := 24, slot := 5, constantValue := 0 }, { name := "UTF16", type := .byte, accessFlags := 24, slot := 6, constantValue := 0 }]
  methods := #[k7m0, k7m1, k7m2, k7m3, k7m4, k7m5, k7m6, k7m7, k7m8]
  instanceTypes := #[(.array .byte), .byte, .int, .boolean]
  staticTypes := #[.long, .boolean, (.array (.object "java/io/ObjectStreamField")), .char, (.object "java/util/Comparator"), .byte, .byte]
  resolved := Array.replicate 1451 none
  statics := some 0 }

def pool8 : Array CpInfo := pool [(2, .class_ 4), (1, u "java/lang/Object"), (19, .class_ 26), (1, u "com/example/modwright/modwright/install/InstanceFolder"), (0, u "m_root"), (0, u "Ljava/nio/file/Path;"), (5, .class_ 36), (1, u "java/lang/String"), (4, u "isSafeSegment"), (0, u "(Ljava/lang/String;)Z"), (16, .methodref 34 60), (0, .nameAndType 61 62), (0, u "isEmpty"), (0, u "()Z"), (0, .methodref 34 64), (0, .nameAndType 65 66), (0, u "length"), (0, u "()I"), (0, .methodref 34 68), (0, .nameAndType 69 70), (0, u "charAt"), (0, u "(I)C"), (0, .methodref 72 73), (0, .class_ 74), (0, .nameAndType 75 76), (0, u "java/lang/Character"), (0, u "isISOControl"), (0, u "(C)Z")] 24

def k8c0 : Code := { maxStack := 3, maxLocals := 4, code := prog_11_method_4_code, exceptionTable := #[], attributes := #[] }
def k8m0 : Method := { name := "isSafeSegment", desc := "(Ljava/lang/String;)Z", sig := { parameters := [(.object "java/lang/String")], returnType := some .boolean }, accessFlags := 8, code := some k8c0 }
/-- com/example/modwright/modwright/install/InstanceFolder -/
def k8 : Class := { plain "com/example/modwright/modwright/install/InstanceFolder" (some 0) with
  accessFlags := 49
  interfaces := #[]
  cf := some (fileOf pool8 24 #[] #[{ accessFlags := 8, nameIndex := 41, descriptorIndex := 42, attributes := #[] }] 49 2 #[] #[{ accessFlags := 18, nameIndex := 27, descriptorIndex := 28, attributes := #[] }])
  fields := #[{ name := "m_root", type := (.object "java/nio/file/Path"), accessFlags := 18, slot := 0, constantValue := 0 }]
  methods := #[k8m0]
  instanceTypes := #[(.object "java/nio/file/Path")]
  staticTypes := #[]
  resolved := Array.replicate 101 none
  statics := none }

def pool9 : Array CpInfo := pool [(3, .class_ 4), (0, u "java/lang/String"), (1, .class_ 8), (1, u "java/lang/Object"), (0, u "<init>"), (0, u "()V"), (0, .methodref 12 13), (0, .class_ 14), (0, .nameAndType 15 16), (0, u "java/lang/StringUTF16"), (0, u "newBytesLength"), (0, u "(I)I"), (3, .integer 1073741823), (23, .fieldref 12 45), (0, .nameAndType 46 47), (0, u "$assertionsDisabled"), (0, u "Z"), (0, .methodref 12 49), (0, .nameAndType 50 51), (0, u "length"), (0, u "([B)I"), (7, .fieldref 12 60), (0, .nameAndType 61 62), (0, u "HI_BYTE_SHIFT"), (0, u "I"), (0, .fieldref 12 64), (0, .nameAndType 65 62), (0, u "LO_BYTE_SHIFT"), (1, .methodref 12 68), (0, .nameAndType 69 70), (0, u "checkIndex"), (0, u "(I[B)V"), (0, .methodref 12 72), (0, .nameAndType 73 74), (0, u "getChar"), (0, u "([BI)C"), (32, .methodref 12 108), (0, .nameAndType 109 110), (0, u "newBytesFor"), (0, u "(I)[B"), (0, .methodref 12 112), (0, .nameAndType 113 114), (0, u "putChar"), (0, u "([BII)V"), (0, .methodref 12 116), (0, .nameAndType 117 118), (0, u "compress"), (0, u "([CI[BII)I"), (0, .methodref 12 120), (0, .nameAndType 121 122), (0, u "toBytes"), (0, u "([CII)[B"), (138, u "coderFromArrayLen"), (0, u "([BI)B"), (106, .class_ 371), (1, u "java/lang/StringUTF16$LinesSpliterator"), (20, u "charAt"), (21, .methodref 3 415), (0, .nameAndType 69 416), (0, u "(II)V"), (13, u "MAX_LENGTH"), (196, .class_ 628), (0, u "java/lang/StringUTF16$CodePointsSpliterator"), (0, .class_ 630), (0, u "java/lang/StringUTF16$CharsSpliterator")] 4

def k9m0 : Method := { name := "<init>", desc := "()V", sig := { parameters := [], returnType := none }, accessFlags := 0, code := none }
def k9c1 : Code := { maxStack := 1, maxLocals := 1, code := jdk_52_method_2_code, exceptionTable := #[], attributes := #[] }
def k9m1 : Method := { name := "newBytesFor", desc := "(I)[B", sig := { parameters := [.int], returnType := some (.array .byte) }, accessFlags := 9, code := some k9c1 }
def k9c2 : Code := { maxStack := 4, maxLocals := 1, code := jdk_52_method_3_code, exceptionTable := #[], attributes := #[] }
def k9m2 : Method := { name := "newBytesLength", desc := "(I)I", sig := { parameters := [.int], returnType := some .int }, accessFlags := 9, code := some k9c2 }
def k9c3 : Code := { maxStack := 4, maxLocals := 3, code := jdk_52_method_4_code, exceptionTable := #[], attributes := #[] }
def k9m3 : Method := { name := "putChar", desc := "([BII)V", sig := { parameters := [(.array .byte), .int, .int], returnType := none }, accessFlags := 8, code := some k9c3 }
def k9c4 : Code := { maxStack := 3, maxLocals := 2, code := jdk_52_method_5_code, exceptionTable := #[], attributes := #[] }
def k9m4 : Method := { name := "getChar", desc := "([BI)C", sig := { parameters := [(.array .byte), .int], returnType := some .char }, accessFlags := 8, code := some k9c4 }
def k9c5 : Code := { maxStack := 2, maxLocals := 1, code := jdk_52_method_6_code, exceptionTable := #[], attributes := #[] }
def k9m5 : Method := { name := "length", desc := "([B)I", sig := { parameters := [(.array .byte)], returnType := some .int }, accessFlags := 9, code := some k9c5 }
def k9c6 : Code := { maxStack := 4, maxLocals := 5, code := jdk_52_method_14_code, exceptionTable := #[], attributes := #[] }
def k9m6 : Method := { name := "toBytes", desc := "([CII)[B", sig := { parameters := [(.array .char), .int, .int], returnType := some (.array .byte) }, accessFlags := 9, code := some k9c6 }
def k9c7 : Code := { maxStack := 2, maxLocals := 2, code := jdk_52_method_15_code, exceptionTable := #[], attributes := #[] }
def k9m7 : Method := { name := "coderFromArrayLen", desc := "([BI)B", sig := { parameters := [(.array .byte), .int], returnType := some .byte }, accessFlags := 8, code := some k9c7 }
def k9c8 : Code := { maxStack := 5, maxLocals := 6, code := jdk_52_method_16_code, exceptionTable := #[], attributes := #[] }
def k9m8 : Method := { name := "compress", desc := "([CII)[B", sig := { parameters := [(.array .char), .int, .int], returnType := some (.array .byte) }, accessFlags := 9, code := some k9c8 }
def k9c9 : Code := { maxStack := 3, maxLocals := 7, code := jdk_52_method_21_code, exceptionTable := #[], attributes := #[] }
def k9m9 : Method := { name := "compress", desc := "([CI[BII)I", sig := { parameters := [(.array .char), .int, (.array .byte), .int, .int], returnType := some .int }, accessFlags := 9, code := some k9c9 }
def k9c10 : Code := { maxStack := 2, maxLocals := 2, code := jdk_52_method_83_code, exceptionTable := #[], attributes := #[] }
def k9m10 : Method := { name := "charAt", desc := "([BI)C", sig := { parameters := [(.array .byte), .int], returnType := some .char }, accessFlags := 9, code := some k9c10 }
def k9c11 : Code := { maxStack := 2, maxLocals := 2, code := jdk_52_method_91_code, exceptionTable := #[], attributes := #[] }
def k9m11 : Method := { name := "checkIndex", desc := "(I[B)V", sig := { parameters := [.int, (.array .byte)], returnType := none }, accessFlags := 9, code := some k9c11 }
/-- java/lang/StringUTF16 -/
def k9 : Class := { plain "java/lang/StringUTF16" (some 0) with
  accessFlags := 48
  interfaces := #[]
  cf := some (fileOf pool9 12 #[.nestMembers #[627, 629, 369]] #[{ accessFlags := 0, nameIndex := 9, descriptorIndex := 10, attributes := #[] }, { accessFlags := 9, nameIndex := 109, descriptorIndex := 110, attributes := #[] }, { accessFlags := 9, nameIndex := 15, descriptorIndex := 16, attributes := #[] }, { accessFlags := 8, nameIndex := 113, descriptorIndex := 114, attributes := #[] }, { accessFlags := 8, nameIndex := 73, descriptorIndex := 74, attributes := #[] }, { accessFlags := 9, nameIndex := 50, descriptorIndex := 51, attributes := #[] }, { accessFlags := 9, nameIndex := 121, descriptorIndex := 122, attributes := #[] }, { accessFlags := 8, nameIndex := 261, descriptorIndex := 262, attributes := #[] }, { accessFlags := 9, nameIndex := 117, descriptorIndex := 122, attributes := #[] }, { accessFlags := 9, nameIndex := 117, descriptorIndex := 118, attributes := #[] }, { accessFlags := 9, nameIndex := 392, descriptorIndex := 74, attributes := #[] }, { accessFlags := 9, nameIndex := 69, descriptorIndex := 70, attributes := #[] }] 48 6 #[] #[{ accessFlags := 26, nameIndex := 61, descriptorIndex := 62, attributes := #[] }, { accessFlags := 26, nameIndex := 65, descriptorIndex := 62, attributes := #[] }, { accessFlags := 24, nameIndex := 430, descriptorIndex := 62, attributes := #[] }, { accessFlags := 4120, nameIndex := 46, descriptorIndex := 47, attributes := #[] }])
  fields := #[{ name := "HI_BYTE_SHIFT", type := .int, accessFlags := 26, slot := 0, constantValue := 0 }, { name := "LO_BYTE_SHIFT", type := .int, accessFlags := 26, slot := 1, constantValue := 0 }, { name := "MAX_LENGTH", type := .int, accessFlags := 24, slot := 2, constantValue := 0 }, { name := "$assertionsDisabled", type := .boolean, accessFlags := 4120, slot := 3, constantValue := 0 }]
  methods := #[k9m0, k9m1, k9m2, k9m3, k9m4, k9m5, k9m6, k9m7, k9m8, k9m9, k9m10, k9m11]
  instanceTypes := #[]
  staticTypes := #[.int, .int, .int, .boolean]
  resolved := Array.replicate 635 none
  statics := some 1 }

def pool10 : Array CpInfo := pool [(1, .class_ 2), (0, u "java/lang/String"), (1, .class_ 6), (1, u "java/lang/Object"), (0, u "<init>"), (0, u "()V"), (0, .methodref 1 10), (0, .nameAndType 11 12), (0, u "checkIndex"), (0, u "(II)V"), (1, .class_ 16), (1, u "java/lang/StringLatin1"), (36, u "([BI)C"), (67, u "$assertionsDisabled"), (0, u "Z"), (98, .class_ 223), (1, u "java/lang/StringLatin1$LinesSpliterator"), (28, u "charAt"), (137, .class_ 391), (0, u "java/lang/StringLatin1$CharsSpliterator")] 3

def k10m0 : Method := { name := "<init>", desc := "()V", sig := { parameters := [], returnType := none }, accessFlags := 0, code := none }
def k10c1 : Code := { maxStack := 2, maxLocals := 2, code := jdk_43_method_2_code, exceptionTable := #[], attributes := #[] }
def k10m1 : Method := { name := "charAt", desc := "([BI)C", sig := { parameters := [(.array .byte), .int], returnType := some .char }, accessFlags := 9, code := some k10c1 }
/-- java/lang/StringLatin1 -/
def k10 : Class := { plain "java/lang/StringLatin1" (some 0) with
  accessFlags := 48
  interfaces := #[]
  cf := some (fileOf pool10 14 #[.nestMembers #[390, 221]] #[{ accessFlags := 0, nameIndex := 7, descriptorIndex := 8, attributes := #[] }, { accessFlags := 9, nameIndex := 252, descriptorIndex := 53, attributes := #[] }] 48 4 #[] #[{ accessFlags := 4120, nameIndex := 121, descriptorIndex := 122, attributes := #[] }])
  fields := #[{ name := "$assertionsDisabled", type := .boolean, accessFlags := 4120, slot := 0, constantValue := 0 }]
  methods := #[k10m0, k10m1]
  instanceTypes := #[]
  staticTypes := #[.boolean]
  resolved := Array.replicate 395 none
  statics := none }

def pool11 : Array CpInfo := pool [(2, .class_ 4), (1, u "java/lang/Object"), (0, u "<init>"), (0, u "()V"), (17, .class_ 26), (1, u "jdk/internal/util/Preconditions"), (6, u "checkIndex"), (21, .class_ 56), (0, u "jdk/internal/util/Preconditions$4"), (57, .class_ 115), (0, u "jdk/internal/util/Preconditions$1"), (7, u "SIOOBE_FORMATTER"), (0, u "Ljava/util/function/BiFunction;"), (0, .class_ 126), (0, u "jdk/internal/util/Preconditions$2"), (3, u "AIOOBE_FORMATTER"), (0, .class_ 132), (0, u "jdk/internal/util/Preconditions$3"), (3, u "IOOBE_FORMATTER"), (41, u "(IILjava/util/function/BiFunction;)I")] 15

def k11m0 : Method := { name := "<init>", desc := "()V", sig := { parameters := [], returnType := none }, accessFlags := 1, code := none }
def k11c1 : Code := { maxStack := 3, maxLocals := 3, code := jdk_41_method_11_code, exceptionTable := #[], attributes := #[] }
def k11m1 : Method := { name := "checkIndex", desc := "(IILjava/util/function/BiFunction;)I", sig := { parameters := [.int, .int, (.object "java/util/function/BiFunction")], returnType := some .int }, accessFlags := 9, code := some k11c1 }
/-- jdk/internal/util/Preconditions -/
def k11 : Class := { plain "jdk/internal/util/Preconditions" (some 0) with
  accessFlags := 33
  interfaces := #[]
  cf := some (fileOf pool11 24 #[.nestMembers #[55, 131, 125, 114]] #[{ accessFlags := 1, nameIndex := 5, descriptorIndex := 6, attributes := #[] }, { accessFlags := 9, nameIndex := 33, descriptorIndex := 178, attributes := #[] }] 33 2 #[] #[{ accessFlags := 25, nameIndex := 123, descriptorIndex := 124, attributes := #[] }, { accessFlags := 25, nameIndex := 130, descriptorIndex := 124, attributes := #[] }, { accessFlags := 25, nameIndex := 136, descriptorIndex := 124, attributes := #[] }])
  fields := #[{ name := "SIOOBE_FORMATTER", type := (.object "java/util/function/BiFunction"), accessFlags := 25, slot := 0, constantValue := 0 }, { name := "AIOOBE_FORMATTER", type := (.object "java/util/function/BiFunction"), accessFlags := 25, slot := 1, constantValue := 0 }, { name := "IOOBE_FORMATTER", type := (.object "java/util/function/BiFunction"), accessFlags := 25, slot := 2, constantValue := 0 }]
  methods := #[k11m0, k11m1]
  instanceTypes := #[]
  staticTypes := #[(.object "java/util/function/BiFunction"), (.object "java/util/function/BiFunction"), (.object "java/util/function/BiFunction")]
  resolved := Array.replicate 194 none
  statics := some 2 }

def pool12 : Array CpInfo := pool [(1, .class_ 2), (0, u "java/lang/Character"), (18, u "value"), (0, u "C"), (19, .class_ 44), (1, u "java/lang/Object"), (3, .class_ 50), (1, u "java/lang/Character$CharacterCache"), (30, u "(C)Z"), (32, u "(I)Z"), (151, .methodref 1 267), (0, .nameAndType 268 114), (0, u "isISOControl"), (15, u "$assertionsDisabled"), (0, u "Z"), (21, .class_ 309), (1, u "java/lang/Character$UnicodeBlock"), (73, u "TYPE"), (0, u "Ljava/lang/Class;"), (0, .class_ 386), (0, u "java/io/Serializable"), (0, .class_ 388), (0, u "java/lang/Comparable"), (0, .class_ 390), (0, u "java/lang/constant/Constable"), (0, u "MIN_RADIX"), (0, u "I"), (2, u "MAX_RADIX"), (1, u "MIN_VALUE"), (1, u "MAX_VALUE"), (3, u "UNASSIGNED"), (0, u "B"), (0, u "UPPERCASE_LETTER"), (1, u "LOWERCASE_LETTER"), (0, u "TITLECASE_LETTER"), (1, u "MODIFIER_LETTER"), (1, u "OTHER_LETTER"), (1, u "NON_SPACING_MARK"), (1, u "ENCLOSING_MARK"), (1, u "COMBINING_SPACING_MARK"), (1, u "DECIMAL_DIGIT_NUMBER"), (1, u "LETTER_NUMBER"), (1, u "OTHER_NUMBER"), (1, u "SPACE_SEPARATOR"), (1, u "LINE_SEPARATOR"), (1, u "PARAGRAPH_SEPARATOR"), (1, u "CONTROL"), (1, u "FORMAT"), (1, u "PRIVATE_USE"), (1, u "SURROGATE"), (1, u "DASH_PUNCTUATION"), (1, u "START_PUNCTUATION"), (1, u "END_PUNCTUATION"), (1, u "CONNECTOR_PUNCTUATION"), (1, u "OTHER_PUNCTUATION"), (1, u "MATH_SYMBOL"), (1, u "CURRENCY_SYMBOL"), (1, u "MODIFIER_SYMBOL"), (1, u "OTHER_SYMBOL"), (1, u "INITIAL_QUOTE_PUNCTUATION"), (1, u "FINAL_QUOTE_PUNCTUATION"), (1, u "ERROR"), (1, u "DIRECTIONALITY_UNDEFINED"), (0, u "DIRECTIONALITY_LEFT_TO_RIGHT"), (0, u "DIRECTIONALITY_RIGHT_TO_LEFT"), (0, u "DIRECTIONALITY_RIGHT_TO_LEFT_ARABIC"), (0, u "DIRECTIONALITY_EUROPEAN_NUMBER"), (0, u "DIRECTIONALITY_EUROPEAN_NUMBER_SEPARATOR"), (0, u "DIRECTIONALITY_EUROPEAN_NUMBER_TERMINATOR"), (0, u "DIRECTIONALITY_ARABIC_NUMBER"), (0, u "DIRECTIONALITY_COMMON_NUMBER_SEPARATOR"), (0, u "DIRECTIONALITY_NONSPACING_MARK"), (0, u "DIRECTIONALITY_BOUNDARY_NEUTRAL"), (0, u "DIRECTIONALITY_PARAGRAPH_SEPARATOR"), (0, u "DIRECTIONALITY_SEGMENT_SEPARATOR"), (0, u "DIRECTIONALITY_WHITESPACE"), (0, u "DIRECTIONALITY_OTHER_NEUTRALS"), (0, u "DIRECTIONALITY_LEFT_TO_RIGHT_EMBEDDING"), (0, u "DIRECTIONALITY_LEFT_TO_RIGHT_OVERRIDE"), (0, u "DIRECTIONALITY_RIGHT_TO_LEFT_EMBEDDING"), (0, u "DIRECTIONALITY_RIGHT_TO_LEFT_OVERRIDE"), (1, u "DIRECTIONALITY_POP_DIRECTIONAL_FORMAT"), (0, u "DIRECTIONALITY_LEFT_TO_RIGHT_ISOLATE"), (0, u "DIRECTIONALITY_RIGHT_TO_LEFT_ISOLATE"), (0, u "DIRECTIONALITY_FIRST_STRONG_ISOLATE"), (0, u "DIRECTIONALITY_POP_DIRECTIONAL_ISOLATE"), (0, u "MIN_HIGH_SURROGATE"), (0, u "MAX_HIGH_SURROGATE"), (1, u "MIN_LOW_SURROGATE"), (0, u "MAX_LOW_SURROGATE"), (1, u "MIN_SURROGATE"), (0, u "MAX_SURROGATE"), (0, u "MIN_SUPPLEMENTARY_CODE_POINT"), (0, u "MIN_CODE_POINT"), (0, u "MAX_CODE_POINT"), (1, u "serialVersionUID"), (0, u "J"), (2, u "SIZE"), (0, u "BYTES"), (88, .class_ 596), (0, u "java/lang/Character$UnicodeScript"), (0, .class_ 598), (0, u "java/lang/Character$Subset")] 5

def k12c0 : Code := { maxStack := 1, maxLocals := 1, code := jdk_89_method_88_code, exceptionTable := #[], attributes := #[] }
def k12m0 : Method := { name := "isISOControl", desc := "(C)Z", sig := { parameters := [.char], returnType := some .boolean }, accessFlags := 9, code := some k12c0 }
def k12c1 : Code := { maxStack := 2, maxLocals := 1, code := jdk_89_method_89_code, exceptionTable := #[], attributes := #[] }
def k12m1 : Method := { name := "isISOControl", desc := "(I)Z", sig := { parameters := [.int], returnType := some .boolean }, accessFlags := 9, code := some k12c1 }
/-- java/lang/Character -/
def k12 : Class := { plain "java/lang/Character" (some 0) with
  accessFlags := 49
  interfaces := #[2, 3, 5]
  cf := some (fileOf pool12 1 #[.nestMembers #[48, 595, 307, 597]] #[{ accessFlags := 9, nameIndex := 268, descriptorIndex := 81, attributes := #[] }, { accessFlags := 9, nameIndex := 268, descriptorIndex := 114, attributes := #[] }] 49 42 #[385, 387, 389] #[{ accessFlags := 25, nameIndex := 391, descriptorIndex := 392, attributes := #[] }, { accessFlags := 25, nameIndex := 395, descriptorIndex := 392, attributes := #[] }, { accessFlags := 25, nameIndex := 397, descriptorIndex := 22, attributes := #[] }, { accessFlags := 25, nameIndex := 399, descriptorIndex := 22, attributes := #[] }, { accessFlags := 25, nameIndex := 383, descriptorIndex := 384, attributes := #[] }, { accessFlags := 25, nameIndex := 403, descriptorIndex := 404, attributes := #[] }, { accessFlags := 25, nameIndex := 405, descriptorIndex := 404, attributes := #[] }, { accessFlags := 25, nameIndex := 407, descriptorIndex := 404, attributes := #[] }, { accessFlags := 25, nameIndex := 408, descriptorIndex := 404, attributes := #[] }, { accessFlags := 25, nameIndex := 410, descriptorIndex := 404, attributes := #[] }, { accessFlags := 25, nameIndex := 412, descriptorIndex := 404, attributes := #[] }, { accessFlags := 25, nameIndex := 414, descriptorIndex := 404, attributes := #[] }, { accessFlags := 25, nameIndex := 416, descriptorIndex := 404, attributes := #[] }, { accessFlags := 25, nameIndex := 418, descriptorIndex := 404, attributes := #[] }, { accessFlags := 25, nameIndex := 420, descriptorIndex := 404, attributes := #[] }, { accessFlags := 25, nameIndex := 422, descriptorIndex := 404, attributes := #[] }, { accessFlags := 25, nameIndex := 424, descriptorIndex := 404, attributes := #[] }, { accessFlags := 25, nameIndex := 426, descriptorIndex := 404, attributes := #[] }, { accessFlags := 25, nameIndex := 428, descriptorIndex := 404, attributes := #[] }, { accessFlags := 25, nameIndex := 430, descriptorIndex := 404, attributes := #[] }, { accessFlags := 25, nameIndex := 432, descriptorIndex := 404, attributes := #[] }, { accessFlags := 25, nameIndex := 434, descriptorIndex := 404, attributes := #[] }, { accessFlags := 25, nameIndex := 436, descriptorIndex := 404, attributes := #[] }, { accessFlags := 25, nameIndex := 438, descriptorIndex := 404, attributes := #[] }, { accessFlags := 25, nameIndex := 440, descriptorIndex := 404, attributes := #[] }, { accessFlags := 25, nameIndex := 442, descriptorIndex := 404, attributes := #[] }, { accessFlags := 25, nameIndex := 444, descriptorIndex := 404, attributes := #[] }, { accessFlags := 25, nameIndex := 446, descriptorIndex := 404, attributes := #[] }, { accessFlags := 25, nameIndex := 448, descriptorIndex := 404, attributes := #[] }, { accessFlags := 25, nameIndex := 450, descriptorIndex := 404, attributes := #[] }, { accessFlags := 25, nameIndex := 452, descriptorIndex := 404, attributes := #[] }, { accessFlags := 25, nameIndex := 454, descriptorIndex := 404, attributes := #[] }, { accessFlags := 25, nameIndex := 456, descriptorIndex := 404, attributes := #[] }, { accessFlags := 25, nameIndex := 458, descriptorIndex := 404, attributes := #[] }, { accessFlags := 25, nameIndex := 460, descriptorIndex := 404, attributes := #[] }, { accessFlags := 24, nameIndex := 462, descriptorIndex := 392, attributes := #[] }, { accessFlags := 25, nameIndex := 464, descriptorIndex := 404, attributes := #[] }, { accessFlags := 25, nameIndex := 465, descriptorIndex := 404, attributes := #[] }, { accessFlags := 25, nameIndex := 466, descriptorIndex := 404, attributes := #[] }, { accessFlags := 25, nameIndex := 467, descriptorIndex := 404, attributes := #[] }, { accessFlags := 25, nameIndex := 468, descriptorIndex := 404, attributes := #[] }, { accessFlags := 25, nameIndex := 469, descriptorIndex := 404, attributes := #[] }, { accessFlags := 25, nameIndex := 470, descriptorIndex := 404, attributes := #[] }, { accessFlags := 25, nameIndex := 471, descriptorIndex := 404, attributes := #[] }, { accessFlags := 25, nameIndex := 472, descriptorIndex := 404, attributes := #[] }, { accessFlags := 25, nameIndex := 473, descriptorIndex := 404, attributes := #[] }, { accessFlags := 25, nameIndex := 474, descriptorIndex := 404, attributes := #[] }, { accessFlags := 25, nameIndex := 475, descriptorIndex := 404, attributes := #[] }, { accessFlags := 25, nameIndex := 476, descriptorIndex := 404, attributes := #[] }, { accessFlags := 25, nameIndex := 477, descriptorIndex := 404, attributes := #[] }, { accessFlags := 25, nameIndex := 478, descriptorIndex := 404, attributes := #[] }, { accessFlags := 25, nameIndex := 479, descriptorIndex := 404, attributes := #[] }, { accessFlags := 25, nameIndex := 480, descriptorIndex := 404, attributes := #[] }, { accessFlags := 25, nameIndex := 481, descriptorIndex := 404, attributes := #[] }, { accessFlags := 25, nameIndex := 482, descriptorIndex := 404, attributes := #[] }, { accessFlags := 25, nameIndex := 484, descriptorIndex := 404, attributes := #[] }, { accessFlags := 25, nameIndex := 485, descriptorIndex := 404, attributes := #[] }, { accessFlags := 25, nameIndex := 486, descriptorIndex := 404, attributes := #[] }, { accessFlags := 25, nameIndex := 487, descriptorIndex := 404, attributes := #[] }, { accessFlags := 25, nameIndex := 488, descriptorIndex := 404, attributes := #[] }, { accessFlags := 25, nameIndex := 489, descriptorIndex := 22, attributes := #[] }, { accessFlags := 25, nameIndex := 490, descriptorIndex := 22, attributes := #[] }, { accessFlags := 25, nameIndex := 492, descriptorIndex := 22, attributes := #[] }, { accessFlags := 25, nameIndex := 493, descriptorIndex := 22, attributes := #[] }, { accessFlags := 25, nameIndex := 495, descriptorIndex := 22, attributes := #[] }, { accessFlags := 25, nameIndex := 496, descriptorIndex := 22, attributes := #[] }, { accessFlags := 25, nameIndex := 497, descriptorIndex := 392, attributes := #[] }, { accessFlags := 25, nameIndex := 498, descriptorIndex := 392, attributes := #[] }, { accessFlags := 25, nameIndex := 499, descriptorIndex := 392, attributes := #[] }, { accessFlags := 18, nameIndex := 21, descriptorIndex := 22, attributes := #[] }, { accessFlags := 26, nameIndex := 501, descriptorIndex := 502, attributes := #[] }, { accessFlags := 25, nameIndex := 505, descriptorIndex := 392, attributes := #[] }, { accessFlags := 25, nameIndex := 506, descriptorIndex := 392, attributes := #[] }, { accessFlags := 4120, nameIndex := 284, descriptorIndex := 285, attributes := #[] }])
  fields := #[{ name := "MIN_RADIX", type := .int, accessFlags := 25, slot := 0, constantValue := 0 }, { name := "MAX_RADIX", type := .int, accessFlags := 25, slot := 1, constantValue := 0 }, { name := "MIN_VALUE", type := .char, accessFlags := 25, slot := 2, constantValue := 0 }, { name := "MAX_VALUE", type := .char, accessFlags := 25, slot := 3, constantValue := 0 }, { name := "TYPE", type := (.object "java/lang/Class"), accessFlags := 25, slot := 4, constantValue := 0 }, { name := "UNASSIGNED", type := .byte, accessFlags := 25, slot := 5, constantValue := 0 }, { name := "UPPERCASE_LETTER", type := .byte, accessFlags := 25, slot := 6, constantValue := 0 }, { name := "LOWERCASE_LETTER", type := .byte, accessFlags := 25, slot := 7, constantValue := 0 }, { name := "TITLECASE_LETTER", type := .byte, accessFlags := 25, slot := 8, constantValue := 0 }, { name := "MODIFIER_LETTER", type := .byte, accessFlags := 25, slot := 9, constantValue := 0 }, { name := "OTHER_LETTER", type := .byte, accessFlags := 25, slot := 10, constantValue := 0 }, { name := "NON_SPACING_MARK", type := .byte, accessFlags := 25, slot := 11, constantValue := 0 }, { name := "ENCLOSING_MARK", type := .byte, accessFlags := 25, slot := 12, constantValue := 0 }, { name := "COMBINING_SPACING_MARK", type := .byte, accessFlags := 25, slot := 13, constantValue := 0 }, { name := "DECIMAL_DIGIT_NUMBER", type := .byte, accessFlags := 25, slot := 14, constantValue := 0 }, { name := "LETTER_NUMBER", type := .byte, accessFlags := 25, slot := 15, constantValue := 0 }, { name := "OTHER_NUMBER", type := .byte, accessFlags := 25, slot := 16, constantValue := 0 }, { name := "SPACE_SEPARATOR", type := .byte, accessFlags := 25, slot := 17, constantValue := 0 }, { name := "LINE_SEPARATOR", type := .byte, accessFlags := 25, slot := 18, constantValue := 0 }, { name := "PARAGRAPH_SEPARATOR", type := .byte, accessFlags := 25, slot := 19, constantValue := 0 }, { name := "CONTROL", type := .byte, accessFlags := 25, slot := 20, constantValue := 0 }, { name := "FORMAT", type := .byte, accessFlags := 25, slot := 21, constantValue := 0 }, { name := "PRIVATE_USE", type := .byte, accessFlags := 25, slot := 22, constantValue := 0 }, { name := "SURROGATE", type := .byte, accessFlags := 25, slot := 23, constantValue := 0 }, { name := "DASH_PUNCTUATION", type := .byte, accessFlags := 25, slot := 24, constantValue := 0 }, { name := "START_PUNCTUATION", type := .byte, accessFlags := 25, slot := 25, constantValue := 0 }, { name := "END_PUNCTUATION", type := .byte, accessFlags := 25, slot := 26, constantValue := 0 }, { name := "CONNECTOR_PUNCTUATION", type := .byte, accessFlags := 25, slot := 27, constantValue := 0 }, { name := "OTHER_PUNCTUATION", type := .byte, accessFlags := 25, slot := 28, constantValue := 0 }, { name := "MATH_SYMBOL", type := .byte, accessFlags := 25, slot := 29, constantValue := 0 }, { name := "CURRENCY_SYMBOL", type := .byte, accessFlags := 25, slot := 30, constantValue := 0 }, { name := "MODIFIER_SYMBOL", type := .byte, accessFlags := 25, slot := 31, constantValue := 0 }, { name := "OTHER_SYMBOL", type := .byte, accessFlags := 25, slot := 32, constantValue := 0 }, { name := "INITIAL_QUOTE_PUNCTUATION", type := .byte, accessFlags := 25, slot := 33, constantValue := 0 }, { name := "FINAL_QUOTE_PUNCTUATION", type := .byte, accessFlags := 25, slot := 34, constantValue := 0 }, { name := "ERROR", type := .int, accessFlags := 24, slot := 35, constantValue := 0 }, { name := "DIRECTIONALITY_UNDEFINED", type := .byte, accessFlags := 25, slot := 36, constantValue := 0 }, { name := "DIRECTIONALITY_LEFT_TO_RIGHT", type := .byte, accessFlags := 25, slot := 37, constantValue := 0 }, { name := "DIRECTIONALITY_RIGHT_TO_LEFT", type := .byte, accessFlags := 25, slot := 38, constantValue := 0 }, { name := "DIRECTIONALITY_RIGHT_TO_LEFT_ARABIC", type := .byte, accessFlags := 25, slot := 39, constantValue := 0 }, { name := "DIRECTIONALITY_EUROPEAN_NUMBER", type := .byte, accessFlags := 25, slot := 40, constantValue := 0 }, { name := "DIRECTIONALITY_EUROPEAN_NUMBER_SEPARATOR", type := .byte, accessFlags := 25, slot := 41, constantValue := 0 }, { name := "DIRECTIONALITY_EUROPEAN_NUMBER_TERMINATOR", type := .byte, accessFlags := 25, slot := 42, constantValue := 0 }, { name := "DIRECTIONALITY_ARABIC_NUMBER", type := .byte, accessFlags := 25, slot := 43, constantValue := 0 }, { name := "DIRECTIONALITY_COMMON_NUMBER_SEPARATOR", type := .byte, accessFlags := 25, slot := 44, constantValue := 0 }, { name := "DIRECTIONALITY_NONSPACING_MARK", type := .byte, accessFlags := 25, slot := 45, constantValue := 0 }, { name := "DIRECTIONALITY_BOUNDARY_NEUTRAL", type := .byte, accessFlags := 25, slot := 46, constantValue := 0 }, { name := "DIRECTIONALITY_PARAGRAPH_SEPARATOR", type := .byte, accessFlags := 25, slot := 47, constantValue := 0 }, { name := "DIRECTIONALITY_SEGMENT_SEPARATOR", type := .byte, accessFlags := 25, slot := 48, constantValue := 0 }, { name := "DIRECTIONALITY_WHITESPACE", type := .byte, accessFlags := 25, slot := 49, constantValue := 0 }, { name := "DIRECTIONALITY_OTHER_NEUTRALS", type := .byte, accessFlags := 25, slot := 50, constantValue := 0 }, { name := "DIRECTIONALITY_LEFT_TO_RIGHT_EMBEDDING", type := .byte, accessFlags := 25, slot := 51, constantValue := 0 }, { name := "DIRECTIONALITY_LEFT_TO_RIGHT_OVERRIDE", type := .byte, accessFlags := 25, slot := 52, constantValue := 0 }, { name := "DIRECTIONALITY_RIGHT_TO_LEFT_EMBEDDING", type := .byte, accessFlags := 25, slot := 53, constantValue := 0 }, { name := "DIRECTIONALITY_RIGHT_TO_LEFT_OVERRIDE", type := .byte, accessFlags := 25, slot := 54, constantValue := 0 }, { name := "DIRECTIONALITY_POP_DIRECTIONAL_FORMAT", type := .byte, accessFlags := 25, slot := 55, constantValue := 0 }, { name := "DIRECTIONALITY_LEFT_TO_RIGHT_ISOLATE", type := .byte, accessFlags := 25, slot := 56, constantValue := 0 }, { name := "DIRECTIONALITY_RIGHT_TO_LEFT_ISOLATE", type := .byte, accessFlags := 25, slot := 57, constantValue := 0 }, { name := "DIRECTIONALITY_FIRST_STRONG_ISOLATE", type := .byte, accessFlags := 25, slot := 58, constantValue := 0 }, { name := "DIRECTIONALITY_POP_DIRECTIONAL_ISOLATE", type := .byte, accessFlags := 25, slot := 59, constantValue := 0 }, { name := "MIN_HIGH_SURROGATE", type := .char, accessFlags := 25, slot := 60, constantValue := 0 }, { name := "MAX_HIGH_SURROGATE", type := .char, accessFlags := 25, slot := 61, constantValue := 0 }, { name := "MIN_LOW_SURROGATE", type := .char, accessFlags := 25, slot := 62, constantValue := 0 }, { name := "MAX_LOW_SURROGATE", type := .char, accessFlags := 25, slot := 63, constantValue := 0 }, { name := "MIN_SURROGATE", type := .char, accessFlags := 25, slot := 64, constantValue := 0 }, { name := "MAX_SURROGATE", type := .char, accessFlags := 25, slot := 65, constantValue := 0 }, { name := "MIN_SUPPLEMENTARY_CODE_POINT", type := .int, accessFlags := 25, slot := 66, constantValue := 0 }, { name := "MIN_CODE_POINT", type := .int, accessFlags := 25, slot := 67, constantValue := 0 }, { name := "MAX_CODE_POINT", type := .int, accessFlags := 25, slot := 68, constantValue := 0 }, { name := "value", type := .char, accessFlags := 18, slot := 0, constantValue := 0 }, { name := "serialVersionUID", type := .long, accessFlags := 26, slot := 69, constantValue := 0 }, { name := "SIZE", type := .int, accessFlags := 25, slot := 70, constantValue := 0 }, { name := "BYTES", type := .int, accessFlags := 25, slot := 71, constantValue := 0 }, { name := "$assertionsDisabled", type := .boolean, accessFlags := 4120, slot := 72, constantValue := 0 }]
  methods := #[k12m0, k12m1]
  instanceTypes := #[.char]
  staticTypes := #[.int, .int, .char, .char, (.object "java/lang/Class"), .byte, .byte, .byte, .byte, .byte, .byte, .byte, .byte, .byte, .byte, .byte, .byte, .byte, .byte, .byte, .byte, .byte, .byte, .byte, .byte, .byte, .byte, .byte, .byte, .byte, .byte, .byte, .byte, .byte, .byte, .int, .byte, .byte, .byte, .byte, .byte, .byte, .byte, .byte, .byte, .byte, .byte, .byte, .byte, .byte, .byte, .byte, .byte, .byte, .byte, .byte, .byte, .byte, .byte, .byte, .char, .char, .char, .char, .char, .char, .int, .int, .int, .long, .int, .int, .boolean]
  resolved := Array.replicate 604 none
  statics := none }

def pool13 : Array CpInfo := pool [(9, u "<init>"), (6, .class_ 18), (1, u "java/lang/Object"), (0, u "()V"), (1, .class_ 23), (1, u "jdk/internal/util/ArraysSupport"), (0, u "LOG2_ARRAY_LONG_INDEX_SCALE"), (0, u "I"), (2, u "U"), (0, u "Ljdk/internal/misc/Unsafe;"), (8, u "BIG_ENDIAN"), (0, u "Z"), (8, u "LOG2_BYTE_BIT_SIZE"), (4, u "LOG2_ARRAY_INT_INDEX_SCALE"), (54, u "JLA"), (0, u "Ljdk/internal/access/JavaLangAccess;"), (11, u "LOG2_ARRAY_BOOLEAN_INDEX_SCALE"), (9, u "LOG2_ARRAY_BYTE_INDEX_SCALE"), (5, u "LOG2_ARRAY_CHAR_INDEX_SCALE"), (5, u "LOG2_ARRAY_SHORT_INDEX_SCALE"), (18, u "LOG2_ARRAY_FLOAT_INDEX_SCALE"), (24, u "LOG2_ARRAY_DOUBLE_INDEX_SCALE"), (89, u "T_BOOLEAN"), (2, u "T_CHAR"), (1, u "T_FLOAT"), (1, u "T_DOUBLE"), (1, u "T_BYTE"), (1, u "T_SHORT"), (1, u "T_INT"), (1, u "T_LONG"), (1, u "SOFT_MAX_ARRAY_LENGTH")] 83

def k13m0 : Method := { name := "<init>", desc := "()V", sig := { parameters := [], returnType := none }, accessFlags := 2, code := none }
/-- jdk/internal/util/ArraysSupport -/
def k13 : Class := { plain "jdk/internal/util/ArraysSupport" (some 0) with
  accessFlags := 33
  interfaces := #[]
  cf := some (fileOf pool13 21 #[] #[{ accessFlags := 2, nameIndex := 9, descriptorIndex := 19, attributes := #[] }] 33 16 #[] #[{ accessFlags := 24, nameIndex := 28, descriptorIndex := 29, attributes := #[] }, { accessFlags := 26, nameIndex := 38, descriptorIndex := 39, attributes := #[] }, { accessFlags := 25, nameIndex := 121, descriptorIndex := 25, attributes := #[] }, { accessFlags := 25, nameIndex := 131, descriptorIndex := 25, attributes := #[] }, { accessFlags := 25, nameIndex := 137, descriptorIndex := 25, attributes := #[] }, { accessFlags := 25, nameIndex := 143, descriptorIndex := 25, attributes := #[] }, { accessFlags := 25, nameIndex := 53, descriptorIndex := 25, attributes := #[] }, { accessFlags := 25, nameIndex := 24, descriptorIndex := 25, attributes := #[] }, { accessFlags := 25, nameIndex := 162, descriptorIndex := 25, attributes := #[] }, { accessFlags := 25, nameIndex := 187, descriptorIndex := 25, attributes := #[] }, { accessFlags := 26, nameIndex := 48, descriptorIndex := 25, attributes := #[] }, { accessFlags := 25, nameIndex := 277, descriptorIndex := 25, attributes := #[] }, { accessFlags := 25, nameIndex := 280, descriptorIndex := 25, attributes := #[] }, { accessFlags := 25, nameIndex := 282, descriptorIndex := 25, attributes := #[] }, { accessFlags := 25, nameIndex := 284, descriptorIndex := 25, attributes := #[] }, { accessFlags := 25, nameIndex := 286, descriptorIndex := 25, attributes := #[] }, { accessFlags := 25, nameIndex := 288, descriptorIndex := 25, attributes := #[] }, { accessFlags := 25, nameIndex := 290, descriptorIndex := 25, attributes := #[] }, { accessFlags := 25, nameIndex := 292, descriptorIndex := 25, attributes := #[] }, { accessFlags := 26, nameIndex := 108, descriptorIndex := 109, attributes := #[] }, { accessFlags := 25, nameIndex := 294, descriptorIndex := 25, attributes := #[] }])
  fields := #[{ name := "U", type := (.object "jdk/internal/misc/Unsafe"), accessFlags := 24, slot := 0, constantValue := 0 }, { name := "BIG_ENDIAN", type := .boolean, accessFlags := 26, slot := 1, constantValue := 0 }, { name := "LOG2_ARRAY_BOOLEAN_INDEX_SCALE", type := .int, accessFlags := 25, slot := 2, constantValue := 0 }, { name := "LOG2_ARRAY_BYTE_INDEX_SCALE", type := .int, accessFlags := 25, slot := 3, constantValue := 0 }, { name := "LOG2_ARRAY_CHAR_INDEX_SCALE", type := .int, accessFlags := 25, slot := 4, constantValue := 0 }, { name := "LOG2_ARRAY_SHORT_INDEX_SCALE", type := .int, accessFlags := 25, slot := 5, constantValue := 0 }, { name := "LOG2_ARRAY_INT_INDEX_SCALE", type := .int, accessFlags := 25, slot := 6, constantValue := 0 }, { name := "LOG2_ARRAY_LONG_INDEX_SCALE", type := .int, accessFlags := 25, slot := 7, constantValue := 0 }, { name := "LOG2_ARRAY_FLOAT_INDEX_SCALE", type := .int, accessFlags := 25, slot := 8, constantValue := 0 }, { name := "LOG2_ARRAY_DOUBLE_INDEX_SCALE", type := .int, accessFlags := 25, slot := 9, constantValue := 0 }, { name := "LOG2_BYTE_BIT_SIZE", type := .int, accessFlags := 26, slot := 10, constantValue := 0 }, { name := "T_BOOLEAN", type := .int, accessFlags := 25, slot := 11, constantValue := 0 }, { name := "T_CHAR", type := .int, accessFlags := 25, slot := 12, constantValue := 0 }, { name := "T_FLOAT", type := .int, accessFlags := 25, slot := 13, constantValue := 0 }, { name := "T_DOUBLE", type := .int, accessFlags := 25, slot := 14, constantValue := 0 }, { name := "T_BYTE", type := .int, accessFlags := 25, slot := 15, constantValue := 0 }, { name := "T_SHORT", type := .int, accessFlags := 25, slot := 16, constantValue := 0 }, { name := "T_INT", type := .int, accessFlags := 25, slot := 17, constantValue := 0 }, { name := "T_LONG", type := .int, accessFlags := 25, slot := 18, constantValue := 0 }, { name := "JLA", type := (.object "jdk/internal/access/JavaLangAccess"), accessFlags := 26, slot := 19, constantValue := 0 }, { name := "SOFT_MAX_ARRAY_LENGTH", type := .int, accessFlags := 25, slot := 20, constantValue := 0 }]
  methods := #[k13m0]
  instanceTypes := #[]
  staticTypes := #[(.object "jdk/internal/misc/Unsafe"), .boolean, .int, .int, .int, .int, .int, .int, .int, .int, .int, .int, .int, .int, .int, .int, .int, .int, .int, (.object "jdk/internal/access/JavaLangAccess"), .int]
  resolved := Array.replicate 378 none
  statics := none }

def pool14 : Array CpInfo := pool [(1, u "java/lang/Cloneable"), (0, .class_ 1), (0, u "java/lang/Object"), (0, .class_ 3)] 3

/-- java/lang/Cloneable -/
def k14 : Class := { plain "java/lang/Cloneable" (some 0) with
  accessFlags := 1537
  interfaces := #[]
  cf := some (fileOf pool14 2 #[] #[] 1537 4 #[] #[])
  fields := #[]
  methods := #[]
  instanceTypes := #[]
  staticTypes := #[]
  resolved := Array.replicate 8 none
  statics := none }

/-- the primitive byte -/
def k15 : Class := { plain "byte" none with kind := .primitive 'B', accessFlags := 0x411 }
/-- [B -/
def k16 : Class := { plain "[B" (some 0) with kind := .array 15 .byte, interfaces := #[14, 2], accessFlags := 1041 }

/-- the primitive char -/
def k17 : Class := { plain "char" none with kind := .primitive 'C', accessFlags := 0x411 }
/-- [C -/
def k18 : Class := { plain "[C" (some 0) with kind := .array 17 .char, interfaces := #[14, 2], accessFlags := 1041 }

/-- the primitive int -/
def k19 : Class := { plain "int" none with kind := .primitive 'I', accessFlags := 0x411 }
/-- [I -/
def k20 : Class := { plain "[I" (some 0) with kind := .array 19 .int, interfaces := #[14, 2], accessFlags := 1041 }

def heap : Heap := #[{ cls := 7, slots := #[.long 0, .int 1, .null, .int 0, .null, .int 0, .int 0], vm := .statics 7 },
  { cls := 9, slots := #[.int 0, .int 8, .int 0, .int 1], vm := .statics 9 },
  { cls := 11, slots := #[.null, .null, .null], vm := .statics 11 }]
def classes : Array Class := #[k0, k1, k2, k3, k4, k5, k6, k7, k8, k9, k10, k11, k12, k13, k14, k15, k16, k17, k18, k19, k20]
def interned : List (Array UInt16 × Addr) := []
def slotsUsed : Nat := 14
def theMethod : MethodId := ⟨1, 1⟩
def args0 : Array Value := #[.int 3, .int 65, .int 5, .int 15, .int 2]
def aboutOver (below : List Frame) : State where
  vm := { classes := classes, interned := interned.toArray }
  heap := heap
  slotsUsed := slotsUsed
  threads := #[{ frames := .invoking theMethod args0 :: below }]
def below0 : List Frame := [.native { method := ⟨0, 0⟩, args := #[] }]
def about1 : State := aboutOver below0
def p0 : Program := .bare "" "" ""
def e0 : Env := launch0.env 0 0 0
theorem w_frames : about1.frames = Frame.invoking theMethod args0 :: below0 := rfl
set_option maxRecDepth 65536 in
theorem w_args : argsFit about1.vm theMethod args0 = true := by decide +kernel
set_option maxRecDepth 65536 in
theorem w_heap : heapFits about1 = true := by decide +kernel
set_option maxRecDepth 65536 in
theorem w_runnable : about1.curStatus? = some .runnable := by decide +kernel
set_option maxRecDepth 65536 in
theorem w_alone : about1.alone = true := by decide +kernel
set_option maxRecDepth 65536 in
theorem w_named : about1.methodNamed? x = some theMethod := by decide +kernel
set_option maxRecDepth 65536 in
theorem w_hears : about1.hears theMethod below0 = true := by decide +kernel
set_option maxRecDepth 65536 in
theorem w_ripe : about1.ripe theMethod args0 below0 = true := by decide +kernel
theorem w_running : about1.status = .running := rfl
set_option maxRecDepth 65536 in
theorem w_room : about1.hasRoom e0.platform room_1 = true :=
  launch0.hasRoom_least _ room_1 (by decide +kernel) (by decide +kernel) (by decide +kernel) (by decide +kernel) (by decide +kernel) (by decide +kernel)
theorem allAtoms_all (ts : List Jvm.Cond) (a : Array Jvm.Value) (st : Jvm.State) : (allAtoms ts).before a st = ts.all (fun c => c.before a st) := by
  induction ts with
  | nil => rfl
  | cons c t ih =>
    show (Jvm.Cond.and c (allAtoms t)).before a st = _
    rw [Jvm.Cond.before_and, ih, List.all_cons]
def words1 : List Jvm.Cond := Jvm.Cond.code x code maxLocals ret :: tables_1
/-- a 'code' word, met by the world's own term for the bytes: nothing is compared byte by byte -/
theorem code_word {y : MethodName} {bytes : ByteArray} {mx : Nat} {rt : Option FieldType} {a : Array Value} {s : State} {m : MethodId} {meth : Method} {c : Code} (h1 : s.methodNamed? y = some m) (h2 : s.vm.method? m = some meth) (h3 : meth.code = some c) (h4 : c.code = bytes)
    (h5 : (c.maxLocals == mx && c.exceptionTable.isEmpty && decide (c.maxStack ≤ mostOperands) && decide (meth.sig.returnType = rt) && !meth.locks && decide (parseMethodDescriptor y.desc = some meth.sig)) = true) : (Jvm.Cond.code y bytes mx rt).before a s = true := by
  simp only [Bool.and_eq_true, beq_iff_eq, Bool.not_eq_true', decide_eq_true_eq] at h5
  obtain ⟨⟨⟨⟨⟨g1, g2⟩, g3⟩, g4⟩, g5⟩, g6⟩ := h5
  simp [Cond.before, Cond.holds, Cond.value, h1, h2, h3, h4, g1, g2, g3, g4, g5, g6]
def isCode : Jvm.Cond → Bool
  | .code _ _ _ _ => true
  | _ => false
theorem all_split {L : List Jvm.Cond} {P : Jvm.Cond → Bool} (h1 : L.all (fun c => isCode c || P c) = true) (h2 : ∀ c ∈ L.filter isCode, P c = true) : L.all P = true := by
  refine List.all_eq_true.mpr fun c hc => ?_
  have h := List.all_eq_true.mp h1 c hc
  rcases Bool.eq_false_or_eq_true (isCode c) with hi | hi
  · exact h2 c (List.mem_filter.mpr ⟨hc, hi⟩)
  · simpa [hi] using h
set_option maxRecDepth 65536 in
theorem w_c0 : (Jvm.Cond.code x code maxLocals ret).before args0 about1 = true := code_word (m := ⟨1, 1⟩) (meth := k1m1) (c := k1c1) (by decide +kernel) rfl rfl rfl (by decide +kernel)
set_option maxRecDepth 65536 in
theorem w_c1 : (Jvm.Cond.code ({ cls := "java/lang/String", name := "<init>", desc := "([C)V" } : Jvm.MethodName) jdk_42_method_3_code (2 : Nat) (Option.none : Option Jvm.ClassFile.FieldType)).before args0 about1 = true := code_word (m := ⟨7, 1⟩) (meth := k7m1) (c := k7c1) (by decide +kernel) rfl rfl rfl (by decide +kernel)
set_option maxRecDepth 65536 in
theorem w_c2 : (Jvm.Cond.code ({ cls := "java/lang/String", name := "<init>", desc := "([CIILjava/lang/Void;)V" } : Jvm.MethodName) jdk_42_method_149_code (6 : Nat) (Option.none : Option Jvm.ClassFile.FieldType)).before args0 about1 = true := code_word (m := ⟨7, 5⟩) (meth := k7m5) (c := k7c5) (by decide +kernel) rfl rfl rfl (by decide +kernel)
set_option maxRecDepth 65536 in
theorem w_c3 : (Jvm.Cond.code ({ cls := "java/lang/Object", name := "<init>", desc := "()V" } : Jvm.MethodName) object_method_1_code (1 : Nat) (Option.none : Option Jvm.ClassFile.FieldType)).before args0 about1 = true := code_word (m := ⟨0, 0⟩) (meth := k0m0) (c := k0c0) (by decide +kernel) rfl rfl rfl (by decide +kernel)
set_option maxRecDepth 65536 in
theorem w_c4 : (Jvm.Cond.code ({ cls := "com/example/modwright/modwright/install/InstanceFolder", name := "isSafeSegment", desc := "(Ljava/lang/String;)Z" } : Jvm.MethodName) prog_11_method_4_code (4 : Nat) (Option.some Jvm.ClassFile.FieldType.boolean)).before args0 about1 = true := code_word (m := ⟨8, 0⟩) (meth := k8m0) (c := k8c0) (by decide +kernel) rfl rfl rfl (by decide +kernel)
set_option maxRecDepth 65536 in
theorem w_c5 : (Jvm.Cond.code ({ cls := "java/lang/String", name := "isEmpty", desc := "()Z" } : Jvm.MethodName) jdk_42_method_55_code (1 : Nat) (Option.some Jvm.ClassFile.FieldType.boolean)).before args0 about1 = true := code_word (m := ⟨7, 3⟩) (meth := k7m3) (c := k7c3) (by decide +kernel) rfl rfl rfl (by decide +kernel)
set_option maxRecDepth 65536 in
theorem w_c6 : (Jvm.Cond.code ({ cls := "com/example/modwright/modwright/install/InstanceFolderIsSafeSegmentPinLaw", name := "plain", desc := "(C)Z" } : Jvm.MethodName) method_3_code (1 : Nat) (Option.some Jvm.ClassFile.FieldType.boolean)).before args0 about1 = true := code_word (m := ⟨1, 2⟩) (meth := k1m2) (c := k1c2) (by decide +kernel) rfl rfl rfl (by decide +kernel)
set_option maxRecDepth 65536 in
theorem w_c7 : (Jvm.Cond.code ({ cls := "java/lang/StringUTF16", name := "compress", desc := "([CII)[B" } : Jvm.MethodName) jdk_52_method_16_code (6 : Nat) (Option.some (Jvm.ClassFile.FieldType.array Jvm.ClassFile.FieldType.byte))).before args0 about1 = true := code_word (m := ⟨9, 8⟩) (meth := k9m8) (c := k9c8) (by decide +kernel) rfl rfl rfl (by decide +kernel)
set_option maxRecDepth 65536 in
theorem w_c8 : (Jvm.Cond.code ({ cls := "java/lang/StringUTF16", name := "compress", desc := "([CI[BII)I" } : Jvm.MethodName) jdk_52_method_21_code (7 : Nat) (Option.some Jvm.ClassFile.FieldType.int)).before args0 about1 = true := code_word (m := ⟨9, 9⟩) (meth := k9m9) (c := k9c9) (by decide +kernel) rfl rfl rfl (by decide +kernel)
set_option maxRecDepth 65536 in
theorem w_c9 : (Jvm.Cond.code ({ cls := "java/lang/StringUTF16", name := "coderFromArrayLen", desc := "([BI)B" } : Jvm.MethodName) jdk_52_method_15_code (2 : Nat) (Option.some Jvm.ClassFile.FieldType.byte)).before args0 about1 = true := code_word (m := ⟨9, 7⟩) (meth := k9m7) (c := k9c7) (by decide +kernel) rfl rfl rfl (by decide +kernel)
set_option maxRecDepth 65536 in
theorem w_c10 : (Jvm.Cond.code ({ cls := "java/lang/String", name := "length", desc := "()I" } : Jvm.MethodName) jdk_42_method_54_code (1 : Nat) (Option.some Jvm.ClassFile.FieldType.int)).before args0 about1 = true := code_word (m := ⟨7, 2⟩) (meth := k7m2) (c := k7c2) (by decide +kernel) rfl rfl rfl (by decide +kernel)
set_option maxRecDepth 65536 in
theorem w_c11 : (Jvm.Cond.code ({ cls := "java/lang/String", name := "coder", desc := "()B" } : Jvm.MethodName) jdk_42_method_152_code (1 : Nat) (Option.some Jvm.ClassFile.FieldType.byte)).before args0 about1 = true := code_word (m := ⟨7, 6⟩) (meth := k7m6) (c := k7c6) (by decide +kernel) rfl rfl rfl (by decide +kernel)
set_option maxRecDepth 65536 in
theorem w_c12 : (Jvm.Cond.code ({ cls := "java/lang/String", name := "charAt", desc := "(I)C" } : Jvm.MethodName) jdk_42_method_56_code (2 : Nat) (Option.some Jvm.ClassFile.FieldType.char)).before args0 about1 = true := code_word (m := ⟨7, 4⟩) (meth := k7m4) (c := k7c4) (by decide +kernel) rfl rfl rfl (by decide +kernel)
set_option maxRecDepth 65536 in
theorem w_c13 : (Jvm.Cond.code ({ cls := "java/lang/String", name := "isLatin1", desc := "()Z" } : Jvm.MethodName) jdk_42_method_154_code (1 : Nat) (Option.some Jvm.ClassFile.FieldType.boolean)).before args0 about1 = true := code_word (m := ⟨7, 7⟩) (meth := k7m7) (c := k7c7) (by decide +kernel) rfl rfl rfl (by decide +kernel)
set_option maxRecDepth 65536 in
theorem w_c14 : (Jvm.Cond.code ({ cls := "java/lang/StringLatin1", name := "charAt", desc := "([BI)C" } : Jvm.MethodName) jdk_43_method_2_code (2 : Nat) (Option.some Jvm.ClassFile.FieldType.char)).before args0 about1 = true := code_word (m := ⟨10, 1⟩) (meth := k10m1) (c := k10c1) (by decide +kernel) rfl rfl rfl (by decide +kernel)
set_option maxRecDepth 65536 in
theorem w_c15 : (Jvm.Cond.code ({ cls := "java/lang/String", name := "checkIndex", desc := "(II)V" } : Jvm.MethodName) jdk_42_method_155_code (2 : Nat) (Option.none : Option Jvm.ClassFile.FieldType)).before args0 about1 = true := code_word (m := ⟨7, 8⟩) (meth := k7m8) (c := k7c8) (by decide +kernel) rfl rfl rfl (by decide +kernel)
set_option maxRecDepth 65536 in
theorem w_c16 : (Jvm.Cond.code ({ cls := "jdk/internal/util/Preconditions", name := "checkIndex", desc := "(IILjava/util/function/BiFunction;)I" } : Jvm.MethodName) jdk_41_method_11_code (3 : Nat) (Option.some Jvm.ClassFile.FieldType.int)).before args0 about1 = true := code_word (m := ⟨11, 1⟩) (meth := k11m1) (c := k11c1) (by decide +kernel) rfl rfl rfl (by decide +kernel)
set_option maxRecDepth 65536 in
theorem w_c17 : (Jvm.Cond.code ({ cls := "java/lang/Character", name := "isISOControl", desc := "(C)Z" } : Jvm.MethodName) jdk_89_method_88_code (1 : Nat) (Option.some Jvm.ClassFile.FieldType.boolean)).before args0 about1 = true := code_word (m := ⟨12, 0⟩) (meth := k12m0) (c := k12c0) (by decide +kernel) rfl rfl rfl (by decide +kernel)
set_option maxRecDepth 65536 in
theorem w_c18 : (Jvm.Cond.code ({ cls := "java/lang/Character", name := "isISOControl", desc := "(I)Z" } : Jvm.MethodName) jdk_89_method_89_code (1 : Nat) (Option.some Jvm.ClassFile.FieldType.boolean)).before args0 about1 = true := code_word (m := ⟨12, 1⟩) (meth := k12m1) (c := k12c1) (by decide +kernel) rfl rfl rfl (by decide +kernel)
set_option maxRecDepth 65536 in
theorem w_c19 : (Jvm.Cond.code ({ cls := "java/lang/StringUTF16", name := "toBytes", desc := "([CII)[B" } : Jvm.MethodName) jdk_52_method_14_code (5 : Nat) (Option.some (Jvm.ClassFile.FieldType.array Jvm.ClassFile.FieldType.byte))).before args0 about1 = true := code_word (m := ⟨9, 6⟩) (meth := k9m6) (c := k9c6) (by decide +kernel) rfl rfl rfl (by decide +kernel)
set_option maxRecDepth 65536 in
theorem w_c20 : (Jvm.Cond.code ({ cls := "java/lang/StringUTF16", name := "newBytesFor", desc := "(I)[B" } : Jvm.MethodName) jdk_52_method_2_code (1 : Nat) (Option.some (Jvm.ClassFile.FieldType.array Jvm.ClassFile.FieldType.byte))).before args0 about1 = true := code_word (m := ⟨9, 1⟩) (meth := k9m1) (c := k9c1) (by decide +kernel) rfl rfl rfl (by decide +kernel)
set_option maxRecDepth 65536 in
theorem w_c21 : (Jvm.Cond.code ({ cls := "java/lang/StringUTF16", name := "newBytesLength", desc := "(I)I" } : Jvm.MethodName) jdk_52_method_3_code (1 : Nat) (Option.some Jvm.ClassFile.FieldType.int)).before args0 about1 = true := code_word (m := ⟨9, 2⟩) (meth := k9m2) (c := k9c2) (by decide +kernel) rfl rfl rfl (by decide +kernel)
set_option maxRecDepth 65536 in
theorem w_c22 : (Jvm.Cond.code ({ cls := "java/lang/StringUTF16", name := "putChar", desc := "([BII)V" } : Jvm.MethodName) jdk_52_method_4_code (3 : Nat) (Option.none : Option Jvm.ClassFile.FieldType)).before args0 about1 = true := code_word (m := ⟨9, 3⟩) (meth := k9m3) (c := k9c3) (by decide +kernel) rfl rfl rfl (by decide +kernel)
set_option maxRecDepth 65536 in
theorem w_c23 : (Jvm.Cond.code ({ cls := "java/lang/StringUTF16", name := "getChar", desc := "([BI)C" } : Jvm.MethodName) jdk_52_method_5_code (2 : Nat) (Option.some Jvm.ClassFile.FieldType.char)).before args0 about1 = true := code_word (m := ⟨9, 4⟩) (meth := k9m4) (c := k9c4) (by decide +kernel) rfl rfl rfl (by decide +kernel)
set_option maxRecDepth 65536 in
theorem w_c24 : (Jvm.Cond.code ({ cls := "java/lang/StringUTF16", name := "charAt", desc := "([BI)C" } : Jvm.MethodName) jdk_52_method_83_code (2 : Nat) (Option.some Jvm.ClassFile.FieldType.char)).before args0 about1 = true := code_word (m := ⟨9, 10⟩) (meth := k9m10) (c := k9c10) (by decide +kernel) rfl rfl rfl (by decide +kernel)
set_option maxRecDepth 65536 in
theorem w_c25 : (Jvm.Cond.code ({ cls := "java/lang/StringUTF16", name := "checkIndex", desc := "(I[B)V" } : Jvm.MethodName) jdk_52_method_91_code (2 : Nat) (Option.none : Option Jvm.ClassFile.FieldType)).before args0 about1 = true := code_word (m := ⟨9, 11⟩) (meth := k9m11) (c := k9c11) (by decide +kernel) rfl rfl rfl (by decide +kernel)
set_option maxRecDepth 65536 in
theorem w_c26 : (Jvm.Cond.code ({ cls := "java/lang/StringUTF16", name := "length", desc := "([B)I" } : Jvm.MethodName) jdk_52_method_6_code (1 : Nat) (Option.some Jvm.ClassFile.FieldType.int)).before args0 about1 = true := code_word (m := ⟨9, 5⟩) (meth := k9m5) (c := k9c5) (by decide +kernel) rfl rfl rfl (by decide +kernel)
def codes1 : List Jvm.Cond := [Jvm.Cond.code x code maxLocals ret, Jvm.Cond.code ({ cls := "java/lang/String", name := "<init>", desc := "([C)V" } : Jvm.MethodName) jdk_42_method_3_code (2 : Nat) (Option.none : Option Jvm.ClassFile.FieldType), Jvm.Cond.code ({ cls := "java/lang/String", name := "<init>", desc := "([CIILjava/lang/Void;)V" } : Jvm.MethodName) jdk_42_method_149_code (6 : Nat) (Option.none : Option Jvm.ClassFile.FieldType), Jvm.Cond.code ({ cls := "java/lang/Object", name := "<init>", desc := "()V" } : Jvm.MethodName) object_method_1_code (1 : Nat) (Option.none : Option Jvm.ClassFile.FieldType), Jvm.Cond.code ({ cls := "com/example/modwright/modwright/install/InstanceFolder", name := "isSafeSegment", desc := "(Ljava/lang/String;)Z" } : Jvm.MethodName) prog_11_method_4_code (4 : Nat) (Option.some Jvm.ClassFile.FieldType.boolean), Jvm.Cond.code ({ cls := "java/lang/String", name := "isEmpty", desc := "()Z" } : Jvm.MethodName) jdk_42_method_55_code (1 : Nat) (Option.some Jvm.ClassFile.FieldType.boolean), Jvm.Cond.code ({ cls := "com/example/modwright/modwright/install/InstanceFolderIsSafeSegmentPinLaw", name := "plain", desc := "(C)Z" } : Jvm.MethodName) method_3_code (1 : Nat) (Option.some Jvm.ClassFile.FieldType.boolean), Jvm.Cond.code ({ cls := "java/lang/StringUTF16", name := "compress", desc := "([CII)[B" } : Jvm.MethodName) jdk_52_method_16_code (6 : Nat) (Option.some (Jvm.ClassFile.FieldType.array Jvm.ClassFile.FieldType.byte)), Jvm.Cond.code ({ cls := "java/lang/StringUTF16", name := "compress", desc := "([CI[BII)I" } : Jvm.MethodName) jdk_52_method_21_code (7 : Nat) (Option.some Jvm.ClassFile.FieldType.int), Jvm.Cond.code ({ cls := "java/lang/StringUTF16", name := "coderFromArrayLen", desc := "([BI)B" } : Jvm.MethodName) jdk_52_method_15_code (2 : Nat) (Option.some Jvm.ClassFile.FieldType.byte), Jvm.Cond.code ({ cls := "java/lang/String", name := "length", desc := "()I" } : Jvm.MethodName) jdk_42_method_54_code (1 : Nat) (Option.some Jvm.ClassFile.FieldType.int), Jvm.Cond.code ({ cls := "java/lang/String", name := "coder", desc := "()B" } : Jvm.MethodName) jdk_42_method_152_code (1 : Nat) (Option.some Jvm.ClassFile.FieldType.byte), Jvm.Cond.code ({ cls := "java/lang/String", name := "charAt", desc := "(I)C" } : Jvm.MethodName) jdk_42_method_56_code (2 : Nat) (Option.some Jvm.ClassFile.FieldType.char), Jvm.Cond.code ({ cls := "java/lang/String", name := "isLatin1", desc := "()Z" } : Jvm.MethodName) jdk_42_method_154_code (1 : Nat) (Option.some Jvm.ClassFile.FieldType.boolean), Jvm.Cond.code ({ cls := "java/lang/StringLatin1", name := "charAt", desc := "([BI)C" } : Jvm.MethodName) jdk_43_method_2_code (2 : Nat) (Option.some Jvm.ClassFile.FieldType.char), Jvm.Cond.code ({ cls := "java/lang/String", name := "checkIndex", desc := "(II)V" } : Jvm.MethodName) jdk_42_method_155_code (2 : Nat) (Option.none : Option Jvm.ClassFile.FieldType), Jvm.Cond.code ({ cls := "jdk/internal/util/Preconditions", name := "checkIndex", desc := "(IILjava/util/function/BiFunction;)I" } : Jvm.MethodName) jdk_41_method_11_code (3 : Nat) (Option.some Jvm.ClassFile.FieldType.int), Jvm.Cond.code ({ cls := "java/lang/Character", name := "isISOControl", desc := "(C)Z" } : Jvm.MethodName) jdk_89_method_88_code (1 : Nat) (Option.some Jvm.ClassFile.FieldType.boolean), Jvm.Cond.code ({ cls := "java/lang/Character", name := "isISOControl", desc := "(I)Z" } : Jvm.MethodName) jdk_89_method_89_code (1 : Nat) (Option.some Jvm.ClassFile.FieldType.boolean), Jvm.Cond.code ({ cls := "java/lang/StringUTF16", name := "toBytes", desc := "([CII)[B" } : Jvm.MethodName) jdk_52_method_14_code (5 : Nat) (Option.some (Jvm.ClassFile.FieldType.array Jvm.ClassFile.FieldType.byte)), Jvm.Cond.code ({ cls := "java/lang/StringUTF16", name := "newBytesFor", desc := "(I)[B" } : Jvm.MethodName) jdk_52_method_2_code (1 : Nat) (Option.some (Jvm.ClassFile.FieldType.array Jvm.ClassFile.FieldType.byte)), Jvm.Cond.code ({ cls := "java/lang/StringUTF16", name := "newBytesLength", desc := "(I)I" } : Jvm.MethodName) jdk_52_method_3_code (1 : Nat) (Option.some Jvm.ClassFile.FieldType.int), Jvm.Cond.code ({ cls := "java/lang/StringUTF16", name := "putChar", desc := "([BII)V" } : Jvm.MethodName) jdk_52_method_4_code (3 : Nat) (Option.none : Option Jvm.ClassFile.FieldType), Jvm.Cond.code ({ cls := "java/lang/StringUTF16", name := "getChar", desc := "([BI)C" } : Jvm.MethodName) jdk_52_method_5_code (2 : Nat) (Option.some Jvm.ClassFile.FieldType.char), Jvm.Cond.code ({ cls := "java/lang/StringUTF16", name := "charAt", desc := "([BI)C" } : Jvm.MethodName) jdk_52_method_83_code (2 : Nat) (Option.some Jvm.ClassFile.FieldType.char), Jvm.Cond.code ({ cls := "java/lang/StringUTF16", name := "checkIndex", desc := "(I[B)V" } : Jvm.MethodName) jdk_52_method_91_code (2 : Nat) (Option.none : Option Jvm.ClassFile.FieldType), Jvm.Cond.code ({ cls := "java/lang/StringUTF16", name := "length", desc := "([B)I" } : Jvm.MethodName) jdk_52_method_6_code (1 : Nat) (Option.some Jvm.ClassFile.FieldType.int)]
set_option maxRecDepth 65536 in
theorem codes_eq : words1.filter isCode = codes1 := rfl
theorem w_codes : ∀ c ∈ words1.filter isCode, c.before args0 about1 = true := by
  rw [codes_eq]
  intro c hc
  simp only [codes1, List.mem_cons, List.not_mem_nil, or_false] at hc
  rcases hc with rfl | rfl | rfl | rfl | rfl | rfl | rfl | rfl | rfl | rfl | rfl | rfl | rfl | rfl | rfl | rfl | rfl | rfl | rfl | rfl | rfl | rfl | rfl | rfl | rfl | rfl | rfl
  · exact w_c0
  · exact w_c1
  · exact w_c2
  · exact w_c3
  · exact w_c4
  · exact w_c5
  · exact w_c6
  · exact w_c7
  · exact w_c8
  · exact w_c9
  · exact w_c10
  · exact w_c11
  · exact w_c12
  · exact w_c13
  · exact w_c14
  · exact w_c15
  · exact w_c16
  · exact w_c17
  · exact w_c18
  · exact w_c19
  · exact w_c20
  · exact w_c21
  · exact w_c22
  · exact w_c23
  · exact w_c24
  · exact w_c25
  · exact w_c26
set_option maxRecDepth 65536 in
theorem w_t1 : (words1.take 24).all (fun c => isCode c || c.before args0 about1) = true := by decide +kernel
set_option maxRecDepth 65536 in
theorem w_t2 : ((words1.drop 24).take 24).all (fun c => isCode c || c.before args0 about1) = true := by decide +kernel
set_option maxRecDepth 65536 in
theorem w_t3 : (((words1.drop 24).drop 24).take 24).all (fun c => isCode c || c.before args0 about1) = true := by decide +kernel
set_option maxRecDepth 65536 in
theorem w_t4 : ((((words1.drop 24).drop 24).drop 24).take 24).all (fun c => isCode c || c.before args0 about1) = true := by decide +kernel
set_option maxRecDepth 65536 in
theorem w_t5 : ((((words1.drop 24).drop 24).drop 24).drop 24).all (fun c => isCode c || c.before args0 about1) = true := by decide +kernel
theorem w_tables : (allAtoms (Jvm.Cond.code x code maxLocals ret :: tables_1)).before args0 about1 = true := by
  rw [allAtoms_all]
  show words1.all (fun c => c.before args0 about1) = true
  refine all_split ?_ w_codes
  rw [← List.take_append_drop 24 words1, List.all_append, w_t1, ← List.take_append_drop 24 (words1.drop 24), List.all_append, w_t2, ← List.take_append_drop 24 ((words1.drop 24).drop 24), List.all_append, w_t3, ← List.take_append_drop 24 (((words1.drop 24).drop 24).drop 24), List.all_append, w_t4, w_t5]
  rfl
set_option maxRecDepth 65536 in
theorem w_rest : rest_1_c.before args0 about1 = true := by decide +kernel
set_option maxRecDepth 65536 in
theorem w_case : (Jvm.Cond.and given_1 narrow_1).before args0 about1 = true := by decide +kernel
set_option maxRecDepth 65536 in
theorem w_consts : constsHeld consts_1 about1 := Jvm.Lit.constsHeldB_iff.mp (by decide +kernel)
theorem w_applies : (headSpec (Jvm.Cond.code x code maxLocals ret :: tables_1) room_1).applies x e0.platform about1 = true :=
  (Spec.applies_iff w_frames).mpr ⟨w_running, w_runnable, w_alone, w_named, w_hears, w_ripe, w_room, w_tables⟩
theorem atStart : AtStart classFile x code maxLocals ret World_1 tables_1 room_1 Calls_1 rest_1 Pre_1 launch0 p0 e0 about1 theMethod args0 below0 :=
  ⟨lists_1, trivial, launch0.admits_env _ _ _, launch0.least_env, fairChoices_fair.cas, fairChoices_fair.clock, w_frames, w_args, w_heap, w_applies, ⟨w_consts, trivial⟩, w_rest, w_case⟩
end start1
theorem witness_1 : WitnessClaimed_1 := ⟨start1.p0, start1.e0, start1.about1, start1.theMethod, start1.args0, start1.below0, start1.atStart⟩
end Jvm.Pilot.@@N@@
