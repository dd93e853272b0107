import JvmDerived
import JvmDerived.Pilot.@@N@@Statement
import JvmDerived.Pilot.@@N@@Code
set_option linter.unusedVariables false
set_option linter.unusedSimpArgs false
namespace Jvm.RoadKit
open Sem ClassFile Op Lib Jvm.Stand Jvm.Free Jvm.LawKit
section OwnKit
variable {p : Program} {l : Launch} {e : Env} {R : Room} {s : State} {m : MethodId} {args : Array Value} {below : List Frame} {meth : Method} {c : Code} {T : State} {locs : List Loc} {cells slots : Nat} {Z : State} {a0 : Array Value} {h h' : Heap} {a b : Addr}
variable {C N : Nat} {Q : Option Value → Heap → List Loc → Prop} {pc : Nat} {Ls : Array Slot} {rest : List Value}
/-- from the state A the invocation returns, with what Q says of the value, the heap and the places written -/
def own_Fin (p : Program) (e : Env) (below : List Frame) (s : State) (C N : Nat) (Q : Option Value → Heap → List Loc → Prop) (A : State) : Prop :=
  ∃ s₂ o, Steps p.tables e below A s₂ ∧ s₂.status = .running ∧ Ended s₂ below o ∧ ∃ v L, o = .returned v ∧ Q v s₂.heap L ∧ FrameEnd s o s₂ L C N
theorem own_of {A B : State} (st : ∀ t, Steps p.tables e below B t → Steps p.tables e below A t) (k : own_Fin p e below s C N Q B) : own_Fin p e below s C N Q A := by
  obtain ⟨s₂, o, h1, h2⟩ := k
  exact ⟨s₂, o, st _ h1, h2⟩
theorem own_mono {Q' : Option Value → Heap → List Loc → Prop} {A : State} (hq : ∀ v h L, Q v h L → Q' v h L) (k : own_Fin p e below s C N Q A) : own_Fin p e below s C N Q' A := by
  obtain ⟨s₂, o, h1, h2, h3, v, L, h4, h5, h6⟩ := k
  exact ⟨s₂, o, h1, h2, h3, v, L, h4, hq _ _ _ h5, h6⟩
/-- a body's contract: called with as' over the heap h0 it returns, and Q holds -/
def own_Met (l : Launch) (Z : State) (y : MethodName) (bytes : ByteArray) (maxL : Nat) (ret : Option FieldType) (rm : Room) (as' : Array Value) (h0 : Heap) (Q : Option Value → Heap → List Loc → Prop) : Prop :=
  ∀ ws : List Cond, MetFree l y (head1 (Cond.code y bytes maxL ret :: ws) rm) (fun a U => a = as' ∧ Z.Warmed39 U.vm ∧ U.heap = h0) (fun _ _ _ _ _ => True) (fun _ U o U' => ∃ v L, o = .returned v ∧ Q v U'.heap L ∧ FrameEnd U o U' L rm.cells rm.slots)
theorem own_met {y : MethodName} {bytes : ByteArray} {maxL : Nat} {ret : Option FieldType} {rm : Room} {as' : Array Value} {h0 : Heap} (hpl : plainFor y = true)
    (body : ∀ (p : Program) (e : Env) (s : State) (m : MethodId) (below : List Frame) (meth : Method) (c : Code) (T : State), Stand p l e rm s m as' below meth c T [] 0 0 → p.tables.exec = Jvm.exec → c.code = bytes → c.maxLocals = maxL → s.vm.findClass y.cls = some m.cls → Z.Warmed39 s.vm → T.heap = h0 → meth.sig.returnType = ret → meth.locks = false → meth.name = y.name →
      own_Fin p e below s rm.cells rm.slots Q (T.setTop (entryFrame m as' maxL))) : own_Met l Z y bytes maxL ret rm as' h0 Q := by
  intro ws
  refine MetFree.of_bodySF hpl hisR ?_
  intro p e s m args below meth c s₁ Bd hml0 hP hK
  obtain ⟨rfl, hZ, hh⟩ := hP
  have X0 : Stand p l e rm s m _ below meth c s₁ [] 0 0 := Stand.of_body Bd
  exact body p e s m below meth c s₁ X0 Bd.exec Bd.bytes hml0 (findClass_of_methodNamed Bd.named) hZ (by rw [← hh, Bd.state]; rfl) Bd.returns Bd.notSynchronized (name_of_methodNamed Bd.named Bd.method).1
/-! returns -/
theorem own_retI (X : Stand p l e R s m args below meth c T locs cells slots) (hx : p.tables.exec = Jvm.exec) (hlk : meth.locks = false) (eT : T.heap = h) {z : Int32} (hret : meth.sig.returnType = some .int) (hd : decode c.code pc = .ok (.ireturn, 1)) (hC : cells ≤ C) (hN : slots ≤ N) (hQ : Q (some (.int z)) h locs) :
    own_Fin p e below s C N Q (T.setTop (mkF m pc Ls (.int z :: rest))) := by
  obtain ⟨fs, hr, hrun, hended, hW, hsame⟩ := X.leave (v := some (.int z)) (fun h => by rw [hret] at h; cases h) hlk
  exact ⟨_, _, retOut X hx hret rfl (Or.inl ⟨rfl, Or.inl rfl, _, rfl⟩) hd hr, hrun, hended, _, _, rfl, (by show Q _ T.heap _; rw [eT]; exact hQ), ⟨_, rfl⟩, hW, hsame.mono hC hN⟩
theorem own_retN (X : Stand p l e R s m args below meth c T locs cells slots) (hx : p.tables.exec = Jvm.exec) (hlk : meth.locks = false) (eT : T.heap = h) {z z' : Int32} {t : FieldType} (hret : meth.sig.returnType = some t) (ht : t = .boolean ∨ t = .byte ∨ t = .char ∨ t = .short) (hd : decode c.code pc = .ok (.ireturn, 1)) (hC : cells ≤ C) (hN : slots ≤ N) (hz : nar t z = z') (hQ : Q (some (.int z')) h locs) :
    own_Fin p e below s C N Q (T.setTop (mkF m pc Ls (.int z :: rest))) := by
  subst hz
  obtain ⟨fs, hr, hrun, hended, hW, hsame⟩ := X.leave (v := some (.int (nar t z))) (fun h => by rw [hret] at h; cases h) hlk
  exact ⟨_, _, retN X hx hret ht hd hr, hrun, hended, _, _, rfl, (by show Q _ T.heap _; rw [eT]; exact hQ), ⟨_, rfl⟩, hW, hsame.mono hC hN⟩
theorem own_retJ (X : Stand p l e R s m args below meth c T locs cells slots) (hx : p.tables.exec = Jvm.exec) (hlk : meth.locks = false) (eT : T.heap = h) {z : Int64} (hret : meth.sig.returnType = some .long) (hd : decode c.code pc = .ok (.lreturn, 1)) (hC : cells ≤ C) (hN : slots ≤ N) (hQ : Q (some (.long z)) h locs) :
    own_Fin p e below s C N Q (T.setTop (mkF m pc Ls (.long z :: rest))) := by
  obtain ⟨fs, hr, hrun, hended, hW, hsame⟩ := X.leave (v := some (.long z)) (fun h => by rw [hret] at h; cases h) hlk
  exact ⟨_, _, retOut X hx hret rfl (Or.inr (Or.inl ⟨rfl, rfl, _, rfl⟩)) hd hr, hrun, hended, _, _, rfl, (by show Q _ T.heap _; rw [eT]; exact hQ), ⟨_, rfl⟩, hW, hsame.mono hC hN⟩
theorem own_retA (X : Stand p l e R s m args below meth c T locs cells slots) (hx : p.tables.exec = Jvm.exec) (hlk : meth.locks = false) (eT : T.heap = h) {t : FieldType} (ht : t.isReference = true) (hret : meth.sig.returnType = some t) (hn : narrow t (.ref a) = .ref a) (hd : decode c.code pc = .ok (.areturn, 1)) (hC : cells ≤ C) (hN : slots ≤ N) (hQ : Q (some (.ref a)) h locs) :
    own_Fin p e below s C N Q (T.setTop (mkF m pc Ls (.ref a :: rest))) := by
  obtain ⟨fs, hr, hrun, hended, hW, hsame⟩ := X.leave (v := some (.ref a)) (fun h => by rw [hret] at h; cases h) hlk
  exact ⟨_, _, retOut X hx hret hn (Or.inr (Or.inr (Or.inr (Or.inr ⟨rfl, ht, rfl⟩)))) hd hr, hrun, hended, _, _, rfl, (by show Q _ T.heap _; rw [eT]; exact hQ), ⟨_, rfl⟩, hW, hsame.mono hC hN⟩
theorem own_retV (X : Stand p l e R s m args below meth c T locs cells slots) (hx : p.tables.exec = Jvm.exec) (hlk : meth.locks = false) (eT : T.heap = h) (hret : meth.sig.returnType = none) (hd : decode c.code pc = .ok (.return_, 1)) (hC : cells ≤ C) (hN : slots ≤ N) (hQ : Q none h locs) :
    own_Fin p e below s C N Q (T.setTop (mkF m pc Ls [])) := by
  obtain ⟨fs, hr, hrun, hended, hW, hsame⟩ := X.leave (v := none) (fun _ => rfl) hlk
  exact ⟨_, _, X.returnOut hx hret hd hr, hrun, hended, _, _, rfl, (by show Q _ T.heap _; rw [eT]; exact hQ), ⟨_, rfl⟩, hW, hsame.mono hC hN⟩
/-! calls -/
theorem own_callS (X : Stand p l e R s m args below meth c T locs cells slots) (hx : p.tables.exec = Jvm.exec) (hZ : Z.Warmed39 s.vm) {own : String} {index : Nat} {y : MethodName} {bytes : ByteArray} {maxL : Nat} {ret : Option FieldType} {rm : Room} {W : Nat} {argsL : List Value} {Qc : Option Value → Heap → List Loc → Prop}
    (hown : s.vm.findClass own = some m.cls) (wl : (Cond.methodLink own index y).before a0 Z = true) (wst : (Cond.static y).before a0 Z = true) (wi : (Cond.initialized y.cls).before a0 Z = true) (wc : (Cond.code y bytes maxL ret).before a0 Z = true) (hy : y.cls ≠ "java/lang/invoke/MethodHandle" ∧ y.cls ≠ "java/lang/invoke/VarHandle")
    (eT : T.heap = h) (hM : own_Met l Z y bytes maxL ret rm argsL.toArray h Qc) (hfr : rm.frames + 1 ≤ R.frames) (hlo : W + (maxL + 11) + rm.locals ≤ R.locals) (hce : cells + rm.cells ≤ R.cells) (hsl : slots + rm.slots ≤ R.slots)
    (hsize : Ls.size = c.maxLocals) {ps : List FieldType} {r : Option FieldType} (hpd : parseMethodDescriptor y.desc = some ⟨ps, r⟩) (hlen : argsL.length = ps.length) {St : List Value} (hs : St = argsL.reverse ++ rest) (hW : (rest.map fun v => v.category).sum ≤ W) (hd : decode c.code pc = .ok (.invokestatic index, 3))
    (k : ∀ v T' h' L, Stand p l e R s m args below meth c T' (locs ++ L) (cells + rm.cells) (slots + rm.slots) → T'.heap = h' → Qc v h' L → own_Fin p e below s C N Q (T'.setTop (mkF m (pc + 3) Ls (v.toList ++ rest)))) :
    own_Fin p e below s C N Q (T.setTop (mkF m pc Ls St)) := by
  subst hs
  obtain ⟨v, _, ⟨T', L', k', n'⟩, -, X', ⟨Lc, hQ, l1, y1, z1⟩, st⟩ := Jvm.LawKit.callS X hx (y := y) hown (mvT hZ wl) (mvT hZ wst) (mvT hZ wi) (mvT hZ wc) hy (backOf (W := W) (hM []) hZ wc wi hfr hlo) (g := mkF m pc Ls (argsL.reverse ++ rest)) rfl hsize (argsL := argsL) (rest := rest) (lenOf hpd hlen) rfl (by show 2 * 0 + _ ≤ _; simpa using hW) hd (fun _ _ => ⟨rfl, eT, hce, hsl⟩)
  dsimp only [Pt.U, Pt.locs, Pt.cells, Pt.slots] at X' l1 y1 z1 st hQ
  subst l1 y1 z1
  exact own_of st (k _ _ _ _ X' rfl hQ)
def own_Pure (r : Value) (h : Heap) : Option Value → Heap → List Loc → Prop := fun v h' L => v = some r ∧ h' = h ∧ L = []
theorem own_callP (X : Stand p l e R s m args below meth c T locs cells slots) (hx : p.tables.exec = Jvm.exec) (hZ : Z.Warmed39 s.vm) {own : String} {index : Nat} {y : MethodName} {bytes : ByteArray} {maxL : Nat} {ret : Option FieldType} {fr lo : Nat} {W : Nat} {argsL : List Value} {rv : Value}
    (hown : s.vm.findClass own = some m.cls) (wl : (Cond.methodLink own index y).before a0 Z = true) (wst : (Cond.static y).before a0 Z = true) (wi : (Cond.initialized y.cls).before a0 Z = true) (wc : (Cond.code y bytes maxL ret).before a0 Z = true) (hy : y.cls ≠ "java/lang/invoke/MethodHandle" ∧ y.cls ≠ "java/lang/invoke/VarHandle")
    (eT : T.heap = h) (hM : own_Met l Z y bytes maxL ret { frames := fr, cells := 0, slots := 0, locals := lo } argsL.toArray h (own_Pure rv h)) (hfr : fr + 1 ≤ R.frames) (hlo : W + (maxL + 11) + lo ≤ R.locals) (hce : cells ≤ R.cells) (hsl : slots ≤ R.slots)
    (hsize : Ls.size = c.maxLocals) {ps : List FieldType} {r : Option FieldType} (hpd : parseMethodDescriptor y.desc = some ⟨ps, r⟩) (hlen : argsL.length = ps.length) {St : List Value} (hs : St = argsL.reverse ++ rest) (hW : (rest.map fun v => v.category).sum ≤ W) (hd : decode c.code pc = .ok (.invokestatic index, 3))
    (k : ∀ T', Stand p l e R s m args below meth c T' locs cells slots → T'.heap = h → own_Fin p e below s C N Q (T'.setTop (mkF m (pc + 3) Ls (rv :: rest)))) :
    own_Fin p e below s C N Q (T.setTop (mkF m pc Ls St)) := by
  refine own_callS X hx hZ hown wl wst wi wc hy eT hM hfr hlo hce hsl hsize hpd hlen hs hW hd ?_
  rintro v T' h' L X' e' ⟨rfl, rfl, rfl⟩
  rw [List.append_nil] at X'
  exact k T' X' e'
theorem own_callV (X : Stand p l e R s m args below meth c T locs cells slots) (hx : p.tables.exec = Jvm.exec) (hZ : Z.Warmed39 s.vm) {own K : String} {index : Nat} {y z : MethodName} {bytes : ByteArray} {maxL : Nat} {ret : Option FieldType} {rm : Room} {W : Nat} {argsL : List Value} {Qc : Option Value → Heap → List Loc → Prop}
    (hown : s.vm.findClass own = some m.cls) (wl : (Cond.methodLink own index y).before a0 Z = true) (wd : (Cond.declares y).before a0 Z = true) (hnf : NotFace s y) (wse : (Cond.selects K y z).before a0 Z = true) (win : (Cond.instanceMethod z).before a0 Z = true) (wi : (Cond.initialized z.cls).before a0 Z = true) (wc : (Cond.code z bytes maxL ret).before a0 Z = true) (hy : y.cls ≠ "java/lang/invoke/MethodHandle" ∧ y.cls ≠ "java/lang/invoke/VarHandle")
    (eT : T.heap = h) (E : Exa Z h b K) (hM : own_Met l Z z bytes maxL ret rm (.ref b :: argsL).toArray h Qc) (hfr : rm.frames + 1 ≤ R.frames) (hlo : W + (maxL + 11) + rm.locals ≤ R.locals) (hce : cells + rm.cells ≤ R.cells) (hsl : slots + rm.slots ≤ R.slots)
    (hsize : Ls.size = c.maxLocals) {ps : List FieldType} {r : Option FieldType} (hpd : parseMethodDescriptor y.desc = some ⟨ps, r⟩) (hlen : argsL.length = ps.length) {St : List Value} (hs : St = argsL.reverse ++ .ref b :: rest) (hW : (rest.map fun v => v.category).sum ≤ W) (hd : decode c.code pc = .ok (.invokevirtual index, 3))
    (k : ∀ v T' h' L, Stand p l e R s m args below meth c T' (locs ++ L) (cells + rm.cells) (slots + rm.slots) → T'.heap = h' → Qc v h' L → own_Fin p e below s C N Q (T'.setTop (mkF m (pc + 3) Ls (v.toList ++ rest)))) :
    own_Fin p e below s C N Q (T.setTop (mkF m pc Ls St)) := by
  subst hs
  obtain ⟨cq, kq, qa, qb, qc⟩ := isOf hZ eT E
  obtain ⟨v, _, ⟨T', L', k', n'⟩, -, X', ⟨Lc, hQ, l1, y1, z1⟩, st⟩ := X.virtualBack hx (y := y) (z := z) hown (mvT hZ wl) (mvT hZ wd) hnf (mvT hZ wse) (mvT hZ win) hy (backOf (W := W) (hM []) hZ wc wi hfr hlo) qa qc (g := mkF m pc Ls (argsL.reverse ++ .ref b :: rest)) rfl hsize (Steps.refl _) (argsL := argsL) (rest := rest) (lenOf hpd hlen) rfl (by show 2 * 0 + _ ≤ _; simpa using hW) hd (fun _ _ => ⟨rfl, eT, hce, hsl⟩)
  dsimp only [Pt.U, Pt.locs, Pt.cells, Pt.slots] at X' l1 y1 z1 st hQ
  subst l1 y1 z1
  exact own_of (fun t k => st.trans k) (k _ _ _ _ X' rfl hQ)
theorem own_callC (X : Stand p l e R s m args below meth c T locs cells slots) (hx : p.tables.exec = Jvm.exec) (hZ : Z.Warmed39 s.vm) {own : String} {index : Nat} {y : MethodName} {bytes : ByteArray} {maxL : Nat} {rm : Room} {W : Nat} {argsL : List Value} {Qc : Option Value → Heap → List Loc → Prop} (hn : y.name = "<init>")
    (hown : s.vm.findClass own = some m.cls) (wl : (Cond.methodLink own index y).before a0 Z = true) (win : (Cond.instanceMethod y).before a0 Z = true) (wi : (Cond.initialized y.cls).before a0 Z = true) (wc : (Cond.code y bytes maxL none).before a0 Z = true) (hy : y.cls ≠ "java/lang/invoke/MethodHandle" ∧ y.cls ≠ "java/lang/invoke/VarHandle")
    (eT : T.heap = h) (hM : own_Met l Z y bytes maxL none rm (.ref b :: argsL).toArray h Qc) (hfr : rm.frames + 1 ≤ R.frames) (hlo : W + (maxL + 11) + rm.locals ≤ R.locals) (hce : cells + rm.cells ≤ R.cells) (hsl : slots + rm.slots ≤ R.slots)
    (hsize : Ls.size = c.maxLocals) {ps : List FieldType} {r : Option FieldType} (hpd : parseMethodDescriptor y.desc = some ⟨ps, r⟩) (hlen : argsL.length = ps.length) {St : List Value} (hs : St = argsL.reverse ++ .ref b :: rest) (hW : (rest.map fun v => v.category).sum ≤ W) (hd : decode c.code pc = .ok (.invokespecial index, 3))
    (k : ∀ v T' h' L, Stand p l e R s m args below meth c T' (locs ++ L) (cells + rm.cells) (slots + rm.slots) → T'.heap = h' → Qc v h' L → own_Fin p e below s C N Q (T'.setTop (mkF m (pc + 3) Ls (v.toList ++ rest)))) :
    own_Fin p e below s C N Q (T.setTop (mkF m pc Ls St)) := by
  subst hs
  obtain ⟨v, _, ⟨T', L', k', n'⟩, -, X', ⟨Lc, hQ, l1, y1, z1⟩, st⟩ := X.specialBack hx (y := y) hn hown (mvT hZ wl) (mvT hZ win) (mvT hZ wc) hy (backOf (W := W) (hM []) hZ wc wi hfr hlo) (g := mkF m pc Ls (argsL.reverse ++ .ref b :: rest)) rfl hsize (Steps.refl _) (a := b) (argsL := argsL) (rest := rest) (lenOf hpd hlen) rfl (by show 2 * 0 + _ ≤ _; simpa using hW) hd (fun _ _ => ⟨rfl, eT, hce, hsl⟩)
  dsimp only [Pt.U, Pt.locs, Pt.cells, Pt.slots] at X' l1 y1 z1 st hQ
  subst l1 y1 z1
  exact own_of (fun t k => st.trans k) (k _ _ _ _ X' rfl hQ)
/-! arrays: n places, the j-th holds f j -/
def own_Arf (Z : State) (h : Heap) (a : Addr) (ty : FieldType) (n : Nat) (f : Nat → Value) : Prop := ∃ cl : Cell, Arr Z h a cl ty ∧ cl.slots.size = n ∧ ∀ j, j < n → cl.slots[j]? = some (f j)
section Ar
variable {ty : FieldType} {n : Nat} {f g : Nat → Value} {sl : Nat} {v : Value} {ws : List Addr}
theorem own_Arf.lt (F : own_Arf Z h a ty n f) : a < h.size := by obtain ⟨cl, A, -⟩ := F; exact A.lt
theorem own_Arf.ext (F : own_Arf Z h a ty n f) (E : Ext h h') : own_Arf Z h' a ty n f := by obtain ⟨cl, A, r⟩ := F; exact ⟨cl, A.ext E, r⟩
theorem own_Arf.other (F : own_Arf Z h b ty n f) (W : Wr h h' a sl v) (q : b ≠ a) : own_Arf Z h' b ty n f := by obtain ⟨cl, A, r⟩ := F; exact ⟨cl, A.other W q, r⟩
theorem own_Arf.keep (F : own_Arf Z h a ty n f) (K : Keep h h' ws) (q : a ∉ ws) : own_Arf Z h' a ty n f := by obtain ⟨cl, A, r⟩ := F; exact ⟨cl, ⟨K.2.1 a cl A.1 q, A.2⟩, r⟩
theorem own_Arf.congr (F : own_Arf Z h a ty n f) (q : ∀ j, j < n → f j = g j) : own_Arf Z h a ty n g := by obtain ⟨cl, A, r, s⟩ := F; exact ⟨cl, A, r, fun j hj => by rw [s j hj, q j hj]⟩
theorem own_Arf.set (F : own_Arf Z h a ty n f) (W : Wr h h' a sl v) : own_Arf Z h' a ty n (fun j => if j = sl then v else f j) := by
  obtain ⟨cl, A, r, q⟩ := F
  refine ⟨_, A.same W, by rw [sz_set]; exact r, fun j hj => ?_⟩
  by_cases u : j = sl
  · subst u; simp [Cell.setSlot, r, hj]
  · show (cl.slots.setIfInBounds sl v)[j]? = some (if j = sl then v else f j)
    rw [if_neg u, Array.getElem?_setIfInBounds_ne (Ne.symm u)]; exact q j hj
theorem own_Arf.new {k : ClassId} {z : Int32} (A : Arr Z h a (newA k ty z) ty) (hz : z.toInt = n) : own_Arf Z h a ty n (fun _ => defaultValue ty) := by
  have e : z.toNatClampNeg = n := by simp only [Int32.toNatClampNeg, hz]; rfl
  refine ⟨_, A, by rw [sz_new]; exact e, fun j hj => ?_⟩
  simp [newA, e, hj]
theorem own_in {j : Int32} {i k : Nat} (hj : j.toInt = i) (hi : i < k) : ¬ (j < 0 ∨ k ≤ j.toNatClampNeg) := by
  simp only [Int32.lt_iff_toInt_lt, Int32.toNatClampNeg, hj, Int32.reduceToInt]; omega
theorem own_nc {j : Int32} {i : Nat} (hj : j.toInt = i) : j.toNatClampNeg = i := by simp only [Int32.toNatClampNeg, hj]; rfl
theorem own_iaload (X : Stand p l e R s m args below meth c T locs cells slots) (hx : p.tables.exec = Jvm.exec) (hZ : Z.Warmed39 s.vm) (eT : T.heap = h) (F : own_Arf Z h a .int n f) {j : Int32} {i : Nat} (hj : j.toInt = i) (hi : i < n) (hv : f i = v) (hd : decode c.code pc = .ok (.iaload, 1))
    (k : own_Fin p e below s C N Q (T.setTop (mkF m (pc + 1) Ls (v :: rest)))) : own_Fin p e below s C N Q (T.setTop (mkF m pc Ls (.int j :: .ref a :: rest))) := by
  obtain ⟨cl, A, r, q⟩ := F
  exact own_of (fun t kk => X.iaload hx (j := j) (v := v) (by rw [eT]; exact A.1) (State.isArrayOf_alike hZ.alike A.2.1) A.2.2 (own_in hj (by rw [r]; exact hi)) (by rw [own_nc hj, q i hi, hv]) (g := mkF m pc Ls (.int j :: .ref a :: rest)) rfl rfl hd t kk) k
theorem own_laload (X : Stand p l e R s m args below meth c T locs cells slots) (hx : p.tables.exec = Jvm.exec) (hZ : Z.Warmed39 s.vm) (eT : T.heap = h) (F : own_Arf Z h a .long n f) {j : Int32} {i : Nat} (hj : j.toInt = i) (hi : i < n) (hv : f i = v) (hd : decode c.code pc = .ok (.laload, 1))
    (k : own_Fin p e below s C N Q (T.setTop (mkF m (pc + 1) Ls (v :: rest)))) : own_Fin p e below s C N Q (T.setTop (mkF m pc Ls (.int j :: .ref a :: rest))) := by
  obtain ⟨cl, A, r, q⟩ := F
  exact own_of (fun t kk => X.laload hx (j := j) (v := v) (by rw [eT]; exact A.1) (State.isArrayOf_alike hZ.alike A.2.1) A.2.2 (own_in hj (by rw [r]; exact hi)) (by rw [own_nc hj, q i hi, hv]) (g := mkF m pc Ls (.int j :: .ref a :: rest)) rfl rfl hd t kk) k
theorem own_caload (X : Stand p l e R s m args below meth c T locs cells slots) (hx : p.tables.exec = Jvm.exec) (hZ : Z.Warmed39 s.vm) (eT : T.heap = h) (F : own_Arf Z h a .char n f) {j : Int32} {i : Nat} (hj : j.toInt = i) (hi : i < n) (hv : f i = v) (hd : decode c.code pc = .ok (.caload, 1))
    (k : own_Fin p e below s C N Q (T.setTop (mkF m (pc + 1) Ls (v :: rest)))) : own_Fin p e below s C N Q (T.setTop (mkF m pc Ls (.int j :: .ref a :: rest))) := by
  obtain ⟨cl, A, r, q⟩ := F
  exact own_of (fun t kk => X.caload hx (j := j) (v := v) (by rw [eT]; exact A.1) (State.isArrayOf_alike hZ.alike A.2.1) A.2.2 (own_in hj (by rw [r]; exact hi)) (by rw [own_nc hj, q i hi, hv]) (g := mkF m pc Ls (.int j :: .ref a :: rest)) rfl rfl hd t kk) k
theorem own_baload (X : Stand p l e R s m args below meth c T locs cells slots) (hx : p.tables.exec = Jvm.exec) (hZ : Z.Warmed39 s.vm) (eT : T.heap = h) (F : own_Arf Z h a .byte n f) {j : Int32} {i : Nat} (hj : j.toInt = i) (hi : i < n) (hv : f i = v) (hd : decode c.code pc = .ok (.baload, 1))
    (k : own_Fin p e below s C N Q (T.setTop (mkF m (pc + 1) Ls (v :: rest)))) : own_Fin p e below s C N Q (T.setTop (mkF m pc Ls (.int j :: .ref a :: rest))) := by
  obtain ⟨cl, A, r, q⟩ := F
  exact own_of (fun t kk => X.baloadBytes hx (j := j) (v := v) (by rw [eT]; exact A.1) (State.isArrayOf_alike hZ.alike A.2.1) A.2.2 (own_in hj (by rw [r]; exact hi)) (by rw [own_nc hj, q i hi, hv]) (g := mkF m pc Ls (.int j :: .ref a :: rest)) rfl rfl hd t kk) k
theorem own_zaload (X : Stand p l e R s m args below meth c T locs cells slots) (hx : p.tables.exec = Jvm.exec) (hZ : Z.Warmed39 s.vm) (eT : T.heap = h) (F : own_Arf Z h a .boolean n f) {j : Int32} {i : Nat} (hj : j.toInt = i) (hi : i < n) (hv : f i = v) (hd : decode c.code pc = .ok (.baload, 1))
    (k : own_Fin p e below s C N Q (T.setTop (mkF m (pc + 1) Ls (v :: rest)))) : own_Fin p e below s C N Q (T.setTop (mkF m pc Ls (.int j :: .ref a :: rest))) := by
  obtain ⟨cl, A, r, q⟩ := F
  exact own_of (fun t kk => X.baloadBooleans hx (j := j) (v := v) (by rw [eT]; exact A.1) (State.isArrayOf_alike hZ.alike A.2.1) A.2.2 (own_in hj (by rw [r]; exact hi)) (by rw [own_nc hj, q i hi, hv]) (g := mkF m pc Ls (.int j :: .ref a :: rest)) rfl rfl hd t kk) k
theorem own_arraylength (X : Stand p l e R s m args below meth c T locs cells slots) (hx : p.tables.exec = Jvm.exec) (hZ : Z.Warmed39 s.vm) (eT : T.heap = h) (F : own_Arf Z h a ty n f) {z : Int32} (hz : z.toInt = n) (hd : decode c.code pc = .ok (.arraylength, 1))
    (k : own_Fin p e below s C N Q (T.setTop (mkF m (pc + 1) Ls (.int z :: rest)))) : own_Fin p e below s C N Q (T.setTop (mkF m pc Ls (.ref a :: rest))) := by
  obtain ⟨cl, A, r, q⟩ := F
  have e1 : cl.slots.size.toInt32 = z := by
    have hlt := Int32.toInt_lt z
    apply Int32.toInt_inj.mp
    rw [r, len_toInt (by omega), hz]
  refine own_of (fun t kk => X.arraylength hx (by rw [eT]; exact A.1) (State.isArrayOf_alike hZ.alike A.2.1) (g := mkF m pc Ls (.ref a :: rest)) rfl rfl hd t kk) ?_
  rw [e1]; exact k
variable {n0 : Nat}
theorem own_st {kd : Value} {i : Nat} {j : Int32} (hj : j.toInt = i) (F : own_Arf Z h a ty n f) (hN : Fr n0 locs) (ge : n0 ≤ a) {A : State} {fr : JFrame}
    (hst : ∃ T' h', Stand p l e R s m args below meth c T' (locs ++ [⟨a, j.toNatClampNeg⟩]) cells slots ∧ T'.heap = h' ∧ Wr h h' a j.toNatClampNeg kd ∧ ∀ target, Steps p.tables e below (T'.setTop fr) target → Steps p.tables e below A target)
    (k : ∀ T' h' locs', Stand p l e R s m args below meth c T' locs' cells slots → Fr n0 locs' → T'.heap = h' → Wr h h' a i kd → own_Arf Z h' a ty n (fun j => if j = i then kd else f j) → own_Fin p e below s C N Q (T'.setTop fr)) :
    own_Fin p e below s C N Q A := by
  obtain ⟨T', h', X', e', W, st⟩ := hst
  have hN' := Fr.snoc X' hN ge
  rw [own_nc hj] at W
  exact own_of st (k T' h' _ X' hN' e' W (F.set W))
theorem own_iastore (X : Stand p l e R s m args below meth c T locs cells slots) (hx : p.tables.exec = Jvm.exec) (hZ : Z.Warmed39 s.vm) (eT : T.heap = h) (F : own_Arf Z h a .int n f) (hN : Fr n0 locs) (ge : n0 ≤ a) {j x : Int32} {i : Nat} (hj : j.toInt = i) (hi : i < n) (hd : decode c.code pc = .ok (.iastore, 1))
    (k : ∀ T' h' locs', Stand p l e R s m args below meth c T' locs' cells slots → Fr n0 locs' → T'.heap = h' → Wr h h' a i (.int x) → own_Arf Z h' a .int n (fun j => if j = i then .int x else f j) → own_Fin p e below s C N Q (T'.setTop (mkF m (pc + 1) Ls rest))) :
    own_Fin p e below s C N Q (T.setTop (mkF m pc Ls (.int x :: .int j :: .ref a :: rest))) := by
  have F' := F
  obtain ⟨cl, A, r, q⟩ := F
  exact own_st hj F' hN ge (stI X hx hZ eT A (j := j) (own_in hj (by rw [r]; exact hi)) (g := mkF m pc Ls (.int x :: .int j :: .ref a :: rest)) rfl rfl hd) k
theorem own_lastore (X : Stand p l e R s m args below meth c T locs cells slots) (hx : p.tables.exec = Jvm.exec) (hZ : Z.Warmed39 s.vm) (eT : T.heap = h) (F : own_Arf Z h a .long n f) (hN : Fr n0 locs) (ge : n0 ≤ a) {j : Int32} {x : Int64} {i : Nat} (hj : j.toInt = i) (hi : i < n) (hd : decode c.code pc = .ok (.lastore, 1))
    (k : ∀ T' h' locs', Stand p l e R s m args below meth c T' locs' cells slots → Fr n0 locs' → T'.heap = h' → Wr h h' a i (.long x) → own_Arf Z h' a .long n (fun j => if j = i then .long x else f j) → own_Fin p e below s C N Q (T'.setTop (mkF m (pc + 1) Ls rest))) :
    own_Fin p e below s C N Q (T.setTop (mkF m pc Ls (.long x :: .int j :: .ref a :: rest))) := by
  have F' := F
  obtain ⟨cl, A, r, q⟩ := F
  exact own_st hj F' hN ge (stJ X hx hZ eT A (j := j) (own_in hj (by rw [r]; exact hi)) (g := mkF m pc Ls (.long x :: .int j :: .ref a :: rest)) rfl rfl hd) k
theorem own_bastore (X : Stand p l e R s m args below meth c T locs cells slots) (hx : p.tables.exec = Jvm.exec) (hZ : Z.Warmed39 s.vm) (eT : T.heap = h) (F : own_Arf Z h a .byte n f) (hN : Fr n0 locs) (ge : n0 ≤ a) {j x : Int32} {i : Nat} (hj : j.toInt = i) (hi : i < n) (hd : decode c.code pc = .ok (.bastore, 1))
    (k : ∀ T' h' locs', Stand p l e R s m args below meth c T' locs' cells slots → Fr n0 locs' → T'.heap = h' → Wr h h' a i (.int x.toInt8.toInt32) → own_Arf Z h' a .byte n (fun j => if j = i then .int x.toInt8.toInt32 else f j) → own_Fin p e below s C N Q (T'.setTop (mkF m (pc + 1) Ls rest))) :
    own_Fin p e below s C N Q (T.setTop (mkF m pc Ls (.int x :: .int j :: .ref a :: rest))) := by
  have F' := F
  obtain ⟨cl, A, r, q⟩ := F
  exact own_st hj F' hN ge (stB X hx hZ eT A (j := j) (own_in hj (by rw [r]; exact hi)) (g := mkF m pc Ls (.int x :: .int j :: .ref a :: rest)) rfl rfl hd) k
theorem own_castore (X : Stand p l e R s m args below meth c T locs cells slots) (hx : p.tables.exec = Jvm.exec) (hZ : Z.Warmed39 s.vm) (eT : T.heap = h) (F : own_Arf Z h a .char n f) (hN : Fr n0 locs) (ge : n0 ≤ a) {j x : Int32} {i : Nat} (hj : j.toInt = i) (hi : i < n) (hd : decode c.code pc = .ok (.castore, 1))
    (k : ∀ T' h' locs', Stand p l e R s m args below meth c T' locs' cells slots → Fr n0 locs' → T'.heap = h' → Wr h h' a i (.int x.toUInt32.toUInt16.toUInt32.toInt32) → own_Arf Z h' a .char n (fun j => if j = i then .int x.toUInt32.toUInt16.toUInt32.toInt32 else f j) → own_Fin p e below s C N Q (T'.setTop (mkF m (pc + 1) Ls rest))) :
    own_Fin p e below s C N Q (T.setTop (mkF m pc Ls (.int x :: .int j :: .ref a :: rest))) := by
  have F' := F
  obtain ⟨cl, A, r, q⟩ := F
  exact own_st hj F' hN ge (stC X hx hZ eT A (j := j) (own_in hj (by rw [r]; exact hi)) (g := mkF m pc Ls (.int x :: .int j :: .ref a :: rest)) rfl rfl hd) k
theorem own_zastore (X : Stand p l e R s m args below meth c T locs cells slots) (hx : p.tables.exec = Jvm.exec) (hZ : Z.Warmed39 s.vm) (eT : T.heap = h) (F : own_Arf Z h a .boolean n f) (hN : Fr n0 locs) (ge : n0 ≤ a) {j x : Int32} {i : Nat} (hj : j.toInt = i) (hi : i < n) (hd : decode c.code pc = .ok (.bastore, 1))
    (k : ∀ T' h' locs', Stand p l e R s m args below meth c T' locs' cells slots → Fr n0 locs' → T'.heap = h' → Wr h h' a i (.int (x &&& 1)) → own_Arf Z h' a .boolean n (fun j => if j = i then .int (x &&& 1) else f j) → own_Fin p e below s C N Q (T'.setTop (mkF m (pc + 1) Ls rest))) :
    own_Fin p e below s C N Q (T.setTop (mkF m pc Ls (.int x :: .int j :: .ref a :: rest))) := by
  have F' := F
  obtain ⟨cl, A, r, q⟩ := F
  exact own_st hj F' hN ge (stZ X hx hZ eT A (j := j) (own_in hj (by rw [r]; exact hi)) (g := mkF m pc Ls (.int x :: .int j :: .ref a :: rest)) rfl rfl hd) k
theorem own_newP (X : Stand p l e R s m args below meth c T locs cells slots) (hx : p.tables.exec = Jvm.exec) (hZ : Z.Warmed39 s.vm) {aty : ArrayType} (w : (Cond.arrayClass (newarray.typeOf aty)).before a0 Z = true) (eT : T.heap = h) (hd : decode c.code pc = .ok (.newarray aty, 2)) {z : Int32} (hz : z.toInt = n) {cap : Nat} (hcap : n ≤ cap) (hb : cap * 8 ≤ 536870912) (hc : cells + 1 ≤ R.cells) (hl : slots + cap ≤ R.slots)
    (k : ∀ T' h' b, Stand p l e R s m args below meth c T' locs (cells + 1) (slots + cap) → T'.heap = h' → Ext h h' → b = h.size → own_Arf Z h' b (newarray.typeOf aty) n (fun _ => defaultValue (newarray.typeOf aty)) → own_Fin p e below s C N Q (T'.setTop (mkF m (pc + 2) Ls (.ref b :: rest)))) :
    own_Fin p e below s C N Q (T.setTop (mkF m pc Ls (.int z :: rest))) := by
  obtain ⟨T', h', cA, X', e', E, A, st⟩ := newP X hx hZ w eT (g := mkF m pc Ls (.int z :: rest)) rfl hd rfl (by rw [Int32.lt_iff_toInt_lt, hz]; show ¬ (n : Int) < 0; omega) (cap := cap) (by rw [own_nc hz]; exact hcap) hb hc hl
  exact own_of st (k T' h' _ X' e' E rfl (own_Arf.new A hz))
end Ar
/-! objects -/
section Ob
variable {n0 : Nat} {v : Value}
theorem own_getF (X : Stand p l e R s m args below meth c T locs cells slots) (hx : p.tables.exec = Jvm.exec) (hZ : Z.Warmed39 s.vm) {own O n d : String} {index : Nat} (hown : s.vm.findClass own = some m.cls) (w : (Cond.fieldLink own index O n d).before a0 Z = true) (eT : T.heap = h) (F : Fld Z h a O n d v) (hd : decode c.code pc = .ok (.getfield index, 3))
    (k : ∀ T', Stand p l e R s m args below meth c T' locs cells slots → T'.heap = h → own_Fin p e below s C N Q (T'.setTop (mkF m (pc + 3) Ls (v :: rest)))) :
    own_Fin p e below s C N Q (T.setTop (mkF m pc Ls (.ref a :: rest))) := by
  obtain ⟨T', X', e', st⟩ := getF X hx hZ hown (host := "") (Or.inl w) Via.refl eT F (g := mkF m pc Ls (.ref a :: rest)) rfl rfl hd
  exact own_of st (k T' X' e')
theorem own_putF (X : Stand p l e R s m args below meth c T locs cells slots) (hx : p.tables.exec = Jvm.exec) (hZ : Z.Warmed39 s.vm) {own O n d K : String} {index kk : Nat} {ty : FieldType} {old : Value} (hown : s.vm.findClass own = some m.cls) (w : (Cond.fieldLink own index O n d).before a0 Z = true) (eT : T.heap = h) (F : Fld Z h a O n d old) (E : Exa Z h a K)
    (L : (Cond.lays K O n d).before a0 Z = true ∨ ((Cond.laysFinal K O n d).before a0 Z = true ∧ own = O ∧ meth.name = "<init>")) (wi : (Cond.instantiable K kk).before a0 Z = true) (hty : parseFieldDescriptor d = some ty) (hn : narrow ty v = v) (hf : fits ty v = true) (hN : Fr n0 locs) (ge : n0 ≤ a) (hd : decode c.code pc = .ok (.putfield index, 3))
    (k : ∀ T' h' locs', Stand p l e R s m args below meth c T' locs' cells slots → Fr n0 locs' → T'.heap = h' → Wr h h' a (slotOf Z O n d) v → own_Fin p e below s C N Q (T'.setTop (mkF m (pc + 3) Ls rest))) :
    own_Fin p e below s C N Q (T.setTop (mkF m pc Ls (v :: .ref a :: rest))) := by
  obtain ⟨T', h', X', e', W, st⟩ := putF X hx hZ hown (host := "") (Or.inl w) Via.refl eT F E L wi hty hn hf (g := mkF m pc Ls (v :: .ref a :: rest)) rfl rfl hd
  exact own_of st (k T' h' _ X' (Fr.snoc X' hN ge) e' W)
theorem own_newO (X : Stand p l e R s m args below meth c T locs cells slots) (hx : p.tables.exec = Jvm.exec) (hZ : Z.Warmed39 s.vm) {own K : String} {index n : Nat} (hown : s.vm.findClass own = some m.cls) (w : (Cond.classLink own index K).before a0 Z = true) (wi : (Cond.instantiable K n).before a0 Z = true) (wz : (Cond.initialized K).before a0 Z = true) (eT : T.heap = h) (hd : decode c.code pc = .ok (.new index, 3)) (hc : cells + 1 ≤ R.cells) (hl : slots + n ≤ R.slots)
    (k : ∀ T' h' b, Stand p l e R s m args below meth c T' locs (cells + 1) (slots + n) → T'.heap = h' → Ext h h' → b = h.size → Exa Z h' b K → (∀ {O nm d : String} {ty : FieldType}, Laid Z a0 K O nm d → parseFieldDescriptor d = some ty → Fld Z h' b O nm d (defaultValue ty)) → own_Fin p e below s C N Q (T'.setTop (mkF m (pc + 3) Ls (.ref b :: rest)))) :
    own_Fin p e below s C N Q (T.setTop (mkF m pc Ls rest)) := by
  obtain ⟨T', h', X', e', E, A, D, -, st⟩ := newO X hx hZ hown w wi wz eT (g := mkF m pc Ls rest) rfl hd hc hl
  exact own_of st (k T' h' _ X' e' E rfl A D)
theorem own_initO (X : Stand p l e R s m args below meth c T locs cells slots) (hx : p.tables.exec = Jvm.exec) (hZ : Z.Warmed39 s.vm) {own : String} {idx : Nat} (hown : s.vm.findClass own = some m.cls) (w1 : (Cond.methodLink own idx Lib.objectInit).before a0 Z = true) (w2 : (Cond.instanceMethod Lib.objectInit).before a0 Z = true) (w3 : (Cond.code Lib.objectInit ⟨#[0xb1]⟩ 1 none).before a0 Z = true) (eT : T.heap = h) (hsize : Ls.size = c.maxLocals) (hd : decode c.code pc = .ok (.invokespecial idx, 3)) (hf : 1 ≤ R.frames) {W : Nat} (hW : (rest.map fun v => v.category).sum ≤ W) (hl : W + 12 ≤ R.locals)
    (k : ∀ T', Stand p l e R s m args below meth c T' locs cells slots → T'.heap = h → own_Fin p e below s C N Q (T'.setTop (mkF m (pc + 3) Ls rest))) :
    own_Fin p e below s C N Q (T.setTop (mkF m pc Ls (.ref a :: rest))) := by
  obtain ⟨T', X', e', st⟩ := initO X hx hZ hown w1 w2 w3 eT (g := mkF m pc Ls (.ref a :: rest)) rfl hsize rfl hd hf (W := W) (by show 2 * 0 + _ ≤ _; simpa using hW) hl
  exact own_of st (k T' X' e')
theorem own_wide (X : Stand p l e R s m args below meth c T locs cells slots) {cells' slots' : Nat} (h1 : cells ≤ cells') (h2 : slots ≤ slots') : Stand p l e R s m args below meth c T locs cells' slots' := { X with same := X.same.mono h1 h2 }
end Ob
theorem own_lremM {g : JFrame} {target : State} (X : Stand p l e R s m args below meth c T locs cells slots) (hx : p.tables.exec = Jvm.exec) (hg : g.method = m) {x y : Int64} (hd : decode c.code g.pc = .ok (.lrem, 1)) (hs : g.stack = .long y :: .long x :: rest) (hy : y ≠ 0)
    (hr : Steps p.tables e below (T.setTop { g with pc := g.pc + 1, stack := .long (x % y) :: rest }) target) : Steps p.tables e below (T.setTop g) target := by
  refine XS.lrem X.here hx hg hd hs hy ?_
  rw [lrem_mod]; exact hr
end OwnKit
def own_iushr (x y : Int32) : Int32 := (x.toUInt32 >>> (y &&& 31).toUInt32).toInt32
def own_ishl (x y : Int32) : Int32 := x <<< (y &&& 31)
def own_ishr (x y : Int32) : Int32 := x >>> (y &&& 31)
def own_lushr (x : Int64) (y : Int32) : Int64 := (x.toUInt64 >>> (y &&& 0x3f).toInt64.toUInt64).toInt64
def own_lshl (x : Int64) (y : Int32) : Int64 := x <<< (y &&& 0x3f).toInt64
def own_lshr (x : Int64) (y : Int32) : Int64 := x >>> (y &&& 0x3f).toInt64
def own_i2b (x : Int32) : Int32 := x.toInt8.toInt32
def own_i2c (x : Int32) : Int32 := x.toUInt32.toUInt16.toUInt32.toInt32
def own_i2s (x : Int32) : Int32 := x.toInt16.toInt32
end Jvm.RoadKit
namespace Jvm.Pilot.@@N@@
open Jvm Jvm.ClassFile Sem Op Lib Jvm.Free Jvm.Stand Jvm.LawKit Jvm.RoadKit Bundle Jvm.Pilot.@@N@@.Jvm.D
theorem d1_0 : decode method_3_code 0 = .ok (.iload_n 2, 1) := by decide +kernel
theorem d1_1 : decode method_3_code 1 = .ok (.iload_n 3, 1) := by decide +kernel
theorem d1_2 : decode method_3_code 2 = .ok (.if_icmp .ge 21, 3) := by decide +kernel
theorem d1_5 : decode method_3_code 5 = .ok (.aload_n 0, 1) := by decide +kernel
theorem d1_6 : decode method_3_code 6 = .ok (.iload_n 1, 1) := by decide +kernel
theorem d1_7 : decode method_3_code 7 = .ok (.iload_n 2, 1) := by decide +kernel
theorem d1_8 : decode method_3_code 8 = .ok (.iadd, 1) := by decide +kernel
theorem d1_9 : decode method_3_code 9 = .ok (.aload_n 0, 1) := by decide +kernel
theorem d1_10 : decode method_3_code 10 = .ok (.iload_n 1, 1) := by decide +kernel
theorem d1_11 : decode method_3_code 11 = .ok (.iload_n 2, 1) := by decide +kernel
theorem d1_12 : decode method_3_code 12 = .ok (.iadd, 1) := by decide +kernel
theorem d1_13 : decode method_3_code 13 = .ok (.baload, 1) := by decide +kernel
theorem d1_14 : decode method_3_code 14 = .ok (.sipush 128, 3) := by decide +kernel
theorem d1_17 : decode method_3_code 17 = .ok (.ior, 1) := by decide +kernel
theorem d1_18 : decode method_3_code 18 = .ok (.i2b, 1) := by decide +kernel
theorem d1_19 : decode method_3_code 19 = .ok (.bastore, 1) := by decide +kernel
theorem d1_20 : decode method_3_code 20 = .ok (.goto 22, 3) := by decide +kernel
theorem d1_23 : decode method_3_code 23 = .ok (.iload_n 2, 1) := by decide +kernel
theorem d1_24 : decode method_3_code 24 = .ok (.iload_n 3, 1) := by decide +kernel
theorem d1_25 : decode method_3_code 25 = .ok (.if_icmp .ne 17, 3) := by decide +kernel
theorem d1_28 : decode method_3_code 28 = .ok (.aload_n 0, 1) := by decide +kernel
theorem d1_29 : decode method_3_code 29 = .ok (.iload_n 1, 1) := by decide +kernel
theorem d1_30 : decode method_3_code 30 = .ok (.iload_n 2, 1) := by decide +kernel
theorem d1_31 : decode method_3_code 31 = .ok (.iadd, 1) := by decide +kernel
theorem d1_32 : decode method_3_code 32 = .ok (.aload_n 0, 1) := by decide +kernel
theorem d1_33 : decode method_3_code 33 = .ok (.iload_n 1, 1) := by decide +kernel
theorem d1_34 : decode method_3_code 34 = .ok (.iload_n 2, 1) := by decide +kernel
theorem d1_35 : decode method_3_code 35 = .ok (.iadd, 1) := by decide +kernel
theorem d1_36 : decode method_3_code 36 = .ok (.baload, 1) := by decide +kernel
theorem d1_37 : decode method_3_code 37 = .ok (.bipush 127, 2) := by decide +kernel
theorem d1_39 : decode method_3_code 39 = .ok (.iand, 1) := by decide +kernel
theorem d1_40 : decode method_3_code 40 = .ok (.i2b, 1) := by decide +kernel
theorem d1_41 : decode method_3_code 41 = .ok (.bastore, 1) := by decide +kernel
theorem d1_42 : decode method_3_code 42 = .ok (.return_, 1) := by decide +kernel
theorem d2_0 : decode method_4_code 0 = .ok (.iload_n 2, 1) := by decide +kernel
theorem d2_1 : decode method_4_code 1 = .ok (.iload_n 3, 1) := by decide +kernel
theorem d2_2 : decode method_4_code 2 = .ok (.if_icmp .le 5, 3) := by decide +kernel
theorem d2_5 : decode method_4_code 5 = .ok (.lconst 0, 1) := by decide +kernel
theorem d2_6 : decode method_4_code 6 = .ok (.lreturn, 1) := by decide +kernel
theorem d2_7 : decode method_4_code 7 = .ok (.aload_n 0, 1) := by decide +kernel
theorem d2_8 : decode method_4_code 8 = .ok (.iload_n 1, 1) := by decide +kernel
theorem d2_9 : decode method_4_code 9 = .ok (.iload_n 2, 1) := by decide +kernel
theorem d2_10 : decode method_4_code 10 = .ok (.iadd, 1) := by decide +kernel
theorem d2_11 : decode method_4_code 11 = .ok (.baload, 1) := by decide +kernel
theorem d2_12 : decode method_4_code 12 = .ok (.bipush 127, 2) := by decide +kernel
theorem d2_14 : decode method_4_code 14 = .ok (.iand, 1) := by decide +kernel
theorem d2_15 : decode method_4_code 15 = .ok (.i2l, 1) := by decide +kernel
theorem d2_16 : decode method_4_code 16 = .ok (.bipush 7, 2) := by decide +kernel
theorem d2_18 : decode method_4_code 18 = .ok (.iload_n 2, 1) := by decide +kernel
theorem d2_19 : decode method_4_code 19 = .ok (.imul, 1) := by decide +kernel
theorem d2_20 : decode method_4_code 20 = .ok (.lshl, 1) := by decide +kernel
theorem d2_21 : decode method_4_code 21 = .ok (.lreturn, 1) := by decide +kernel
theorem d3_0 : decode prog_18_method_18_code 0 = .ok (.lconst 0, 1) := by decide +kernel
theorem d3_1 : decode prog_18_method_18_code 1 = .ok (.lstore_n 2, 1) := by decide +kernel
theorem d3_2 : decode prog_18_method_18_code 2 = .ok (.iconst 0, 1) := by decide +kernel
theorem d3_3 : decode prog_18_method_18_code 3 = .ok (.istore 4, 2) := by decide +kernel
theorem d3_5 : decode prog_18_method_18_code 5 = .ok (.aload_n 0, 1) := by decide +kernel
theorem d3_6 : decode prog_18_method_18_code 6 = .ok (.iload_n 1, 1) := by decide +kernel
theorem d3_7 : decode prog_18_method_18_code 7 = .ok (.iinc 1 1, 3) := by decide +kernel
theorem d3_10 : decode prog_18_method_18_code 10 = .ok (.baload, 1) := by decide +kernel
theorem d3_11 : decode prog_18_method_18_code 11 = .ok (.istore 5, 2) := by decide +kernel
theorem d3_13 : decode prog_18_method_18_code 13 = .ok (.lload_n 2, 1) := by decide +kernel
theorem d3_14 : decode prog_18_method_18_code 14 = .ok (.iload 5, 2) := by decide +kernel
theorem d3_16 : decode prog_18_method_18_code 16 = .ok (.bipush 127, 2) := by decide +kernel
theorem d3_18 : decode prog_18_method_18_code 18 = .ok (.iand, 1) := by decide +kernel
theorem d3_19 : decode prog_18_method_18_code 19 = .ok (.i2l, 1) := by decide +kernel
theorem d3_20 : decode prog_18_method_18_code 20 = .ok (.iload 4, 2) := by decide +kernel
theorem d3_22 : decode prog_18_method_18_code 22 = .ok (.lshl, 1) := by decide +kernel
theorem d3_23 : decode prog_18_method_18_code 23 = .ok (.lor, 1) := by decide +kernel
theorem d3_24 : decode prog_18_method_18_code 24 = .ok (.lstore_n 2, 1) := by decide +kernel
theorem d3_25 : decode prog_18_method_18_code 25 = .ok (.iload 5, 2) := by decide +kernel
theorem d3_27 : decode prog_18_method_18_code 27 = .ok (.sipush 128, 3) := by decide +kernel
theorem d3_30 : decode prog_18_method_18_code 30 = .ok (.iand, 1) := by decide +kernel
theorem d3_31 : decode prog_18_method_18_code 31 = .ok (.ifCond .ne 5, 3) := by decide +kernel
theorem d3_34 : decode prog_18_method_18_code 34 = .ok (.lload_n 2, 1) := by decide +kernel
theorem d3_35 : decode prog_18_method_18_code 35 = .ok (.lreturn, 1) := by decide +kernel
theorem d3_36 : decode prog_18_method_18_code 36 = .ok (.iinc 4 7, 3) := by decide +kernel
theorem d3_39 : decode prog_18_method_18_code 39 = .ok (.goto (-34), 3) := by decide +kernel
theorem pd_0 : parseMethodDescriptor "(JJII)Z" = some ⟨[.long, .long, .int, .int], some .boolean⟩ := by decide +kernel
theorem pd_1 : parseMethodDescriptor "([BI)J" = some ⟨[(.array .byte), .int], some .long⟩ := by decide +kernel
theorem pd_2 : parseMethodDescriptor "([BIII)J" = some ⟨[(.array .byte), .int, .int, .int], some .long⟩ := by decide +kernel
theorem pd_3 : parseMethodDescriptor "([BIII)V" = some ⟨[(.array .byte), .int, .int, .int], none⟩ := by decide +kernel
theorem pn_0 : plainFor x = true := plainFor_of_name (by first | (simp [plainName, overriddenIn]; done) | decide +kernel)
theorem ef_0 (m : MethodId) (x0 : Int64) (x1 : Int64) (x2 : Int32) (x3 : Int32) : entryFrame m #[(.long x0), (.long x1), (.int x2), (.int x3)] maxLocals = mkF m 0 #[.val (.long x0), .second, .val (.long x1), .second, .val (.int x2), .val (.int x3), .unset, .unset, .unset, .unset, .unset] [] := by first | (simp [entryFrame, mkF, argsToLocals, Value.category, maxLocals]; done) | rfl
theorem pn_1 : plainFor (⟨"com/example/vestwright/vestwright/csv/ExternalSortVarLongAtPinLaw", "mark", "([BIII)V"⟩ : MethodName) = true := plainFor_of_name (by first | (simp [plainName, overriddenIn]; done) | decide +kernel)
theorem ef_1 (m : MethodId) (x0 : Addr) (x1 : Int32) (x2 : Int32) (x3 : Int32) : entryFrame m #[(.ref x0), (.int x1), (.int x2), (.int x3)] 4 = mkF m 0 #[.val (.ref x0), .val (.int x1), .val (.int x2), .val (.int x3)] [] := by first | (simp [entryFrame, mkF, argsToLocals, Value.category]; done) | rfl
theorem pn_2 : plainFor (⟨"com/example/vestwright/vestwright/csv/ExternalSortVarLongAtPinLaw", "term", "([BIII)J"⟩ : MethodName) = true := plainFor_of_name (by first | (simp [plainName, overriddenIn]; done) | decide +kernel)
theorem ef_2 (m : MethodId) (x0 : Addr) (x1 : Int32) (x2 : Int32) (x3 : Int32) : entryFrame m #[(.ref x0), (.int x1), (.int x2), (.int x3)] 4 = mkF m 0 #[.val (.ref x0), .val (.int x1), .val (.int x2), .val (.int x3)] [] := by first | (simp [entryFrame, mkF, argsToLocals, Value.category]; done) | rfl
theorem pn_3 : plainFor (⟨"com/example/vestwright/vestwright/csv/ExternalSort", "varLongAt", "([BI)J"⟩ : MethodName) = true := plainFor_of_name (by first | (simp [plainName, overriddenIn]; done) | decide +kernel)
theorem ef_3 (m : MethodId) (x0 : Addr) (x1 : Int32) : entryFrame m #[(.ref x0), (.int x1)] 6 = mkF m 0 #[.val (.ref x0), .val (.int x1), .unset, .unset, .unset, .unset] [] := by first | (simp [entryFrame, mkF, argsToLocals, Value.category]; done) | rfl
theorem own_all8 {P : Int8 → Prop} (h : ∀ n : Fin 256, P (.ofBitVec (.ofFin n))) (b : Int8) : P b := by
  have := h b.toBitVec.toFin
  simpa using this
theorem own_fin (x : Int32) (K : Nat) (h0 : 0 ≤ x.toInt) (h1 : x.toInt < K) : ∃ n : Nat, n < K ∧ x = Int32.ofInt (n : Int) :=
  ⟨x.toInt.toNat, by omega, by rw [Int.toNat_of_nonneg h0, Int32.ofInt_toInt]⟩
theorem own_lushr_nat (x : Int64) (q : Int32) (k : Nat) (hk : q.toBitVec.toNat % 64 = k) : (own_lushr x q).toBitVec.toNat = x.toBitVec.toNat / 2 ^ k := by
  show (x.toBitVec >>> ((q &&& 0x3f).toInt64.toBitVec % 64)).toNat = _
  rw [BitVec.ushiftRight_eq', BitVec.toNat_ushiftRight, Nat.shiftRight_eq_div_pow, BitVec.toNat_umod, (sm64 q k hk).1, BitVec.toNat_ofNat]
  congr 2
  have := (sm64 q k hk).2
  show k % 2 ^ 64 % 64 = k
  omega
theorem own_l0 (x : Int64) : x = 0 ↔ x.toBitVec.toNat = 0 := ⟨fun h => by subst h; rfl, fun h => Int64.toBitVec_inj.mp (BitVec.eq_of_toNat_eq h)⟩
theorem own_shsh (x : Int64) (a b c : Int32) (i j : Nat) (ha : a.toBitVec.toNat % 64 = i) (hb : b.toBitVec.toNat % 64 = j) (hc : c.toBitVec.toNat % 64 = i + j) : own_lushr (own_lushr x a) b = own_lushr x c := by
  apply Int64.toBitVec_inj.mp
  apply BitVec.eq_of_toNat_eq
  rw [own_lushr_nat _ b j hb, own_lushr_nat x a i ha, own_lushr_nat x c _ hc, Nat.div_div_eq_div_mul, Nat.pow_add]
theorem own_shz (x : Int64) (a b : Int32) (i j : Nat) (ha : a.toBitVec.toNat % 64 = i) (hb : b.toBitVec.toNat % 64 = j) (h : 64 ≤ i + j) : own_lushr (own_lushr x a) b = 0 := by
  rw [own_l0, own_lushr_nat _ b j hb, own_lushr_nat x a i ha, Nat.div_div_eq_div_mul, ← Nat.pow_add]
  exact Nat.div_eq_of_lt (Nat.lt_of_lt_of_le x.toBitVec.isLt (Nat.pow_le_pow_right (by decide) h))
theorem own_true {P : Prop} [Decidable P] (h : P) : ((if P then (1 : Int32) else (0 : Int32)) &&& 1) = 1 := by rw [if_pos h]; rfl
/-! Java's >>> on longs by a natural number -/
def own_sr (v : Int64) (k : Nat) : Int64 := .ofBitVec (v.toBitVec >>> k)
theorem own_sr_nat (v : Int64) (k : Nat) : (own_sr v k).toBitVec.toNat = v.toBitVec.toNat / 2 ^ k := by
  show (v.toBitVec >>> k).toNat = _
  rw [BitVec.toNat_ushiftRight, Nat.shiftRight_eq_div_pow]
theorem own_inj {a b : Int64} (h : a.toBitVec.toNat = b.toBitVec.toNat) : a = b := Int64.toBitVec_inj.mp (BitVec.eq_of_toNat_eq h)
theorem own_lushr_sr (v : Int64) (q : Int32) (k : Nat) (hk : q.toBitVec.toNat % 64 = k) : own_lushr v q = own_sr v k := own_inj (by rw [own_lushr_nat v q k hk, own_sr_nat])
theorem own_sr_sr (v : Int64) (a b : Nat) : own_sr (own_sr v a) b = own_sr v (a + b) := own_inj (by rw [own_sr_nat, own_sr_nat, own_sr_nat, Nat.div_div_eq_div_mul, Nat.pow_add])
theorem own_turn (v : Int64) (i : Nat) : own_lushr (own_sr v (7 * i)) (7 : Int32) = own_sr v (7 * (i + 1)) := by
  rw [own_lushr_sr _ 7 7 (by decide), own_sr_sr]; congr 1
theorem own_i2b_i2b (x : Int32) : own_i2b (own_i2b x) = own_i2b x := by
  have h1 := (c_i2b (own_i2b x))
  have h2 := (c_i2b x)
  change ((own_i2b (own_i2b x)).toInt - (own_i2b x).toInt) % 256 = 0 ∧ -128 ≤ (own_i2b (own_i2b x)).toInt ∧ (own_i2b (own_i2b x)).toInt < 128 at h1
  change ((own_i2b x).toInt - x.toInt) % 256 = 0 ∧ -128 ≤ (own_i2b x).toInt ∧ (own_i2b x).toInt < 128 at h2
  exact Int32.toInt_inj.mp (by omega)
theorem own_ex {Z : State} {h : Heap} {a : Addr} {n : Nat} {F : Nat → Value} (A : own_Arf Z h a .byte n F) (q : ∀ j, j < n → ∃ v, F j = .int v) : ∃ f : Nat → Int32, own_Arf Z h a .byte n (fun j => .int (f j)) := by
  refine ⟨fun j => (match F j with | .int v => v | _ => 0), A.congr fun j hj => ?_⟩
  obtain ⟨v, hv⟩ := q j hj
  dsimp only
  rw [hv]
theorem own_ai {x y : Int32} {a i : Nat} (hx : x.toInt = (a : Int)) (hy : y.toInt = (i : Int)) (h : a + i < 100) : (x + y).toInt = ((a + i : Nat) : Int) := by
  have h1 := c_iadd x y
  have h2 := rng32 (x + y)
  omega
theorem own_or128 (r : Int32) : ¬ ((own_i2b (own_i2b (r ||| (128 : Int32)))) &&& (128 : Int32)) = (0 : Int32) := by
  rw [own_i2b_i2b]
  show ¬ ((r ||| (128 : Int32)).toInt8.toInt32 &&& (128 : Int32)) = (0 : Int32)
  rw [Int32.toInt8_or]
  exact own_all8 (P := fun b => ¬ ((b ||| (128 : Int32).toInt8).toInt32 &&& (128 : Int32)) = (0 : Int32)) (by decide +kernel) r.toInt8
theorem own_and127 (r : Int32) : ((own_i2b (own_i2b (r &&& (127 : Int32)))) &&& (128 : Int32)) = (0 : Int32) := by
  rw [own_i2b_i2b]
  show ((r &&& (127 : Int32)).toInt8.toInt32 &&& (128 : Int32)) = (0 : Int32)
  rw [Int32.toInt8_and]
  exact own_all8 (P := fun b => ((b &&& (127 : Int32).toInt8).toInt32 &&& (128 : Int32)) = (0 : Int32)) (by decide +kernel) r.toInt8
set_option maxRecDepth 65536 in
set_option maxHeartbeats 40000000 in
theorem met1 (l : Launch) (Z : State) (a0 : Array Value) (hw : ∀ d ∈ tables_1, d.before a0 Z = true) (x0 : Addr) (x1 : Int32) (x2 : Int32) (x3 : Int32) (f : Nat → Int32) (a : Nat) (i : Nat) (h0 : Heap) (n0 : Nat) (Z0 : n0 ≤ h0.size) (A : own_Arf Z h0 x0 .byte 16 (fun j => .int (f j))) (ha : x1.toInt = (a : Int)) (hi0 : x2.toInt = (i : Int)) (hai : a + i < 16) (ge : n0 ≤ x0) :
    own_Met l Z (⟨"com/example/vestwright/vestwright/csv/ExternalSortVarLongAtPinLaw", "mark", "([BIII)V"⟩ : MethodName) method_3_code 4 none { frames := 0, cells := 0, slots := 0, locals := 0 } #[(.ref x0), (.int x1), (.int x2), (.int x3)] h0 (fun v h L => v = none ∧ Fr n0 L ∧ n0 ≤ h.size ∧ ∃ f' : Nat → Int32, own_Arf Z h x0 .byte 16 (fun j => .int (f' j)) ∧ (∀ j, ¬ j = a + i → f' j = f j) ∧ (x2 < x3 → ¬ (f' (a + i) &&& (128 : Int32)) = (0 : Int32)) ∧ (x2 = x3 → (f' (a + i) &&& (128 : Int32)) = (0 : Int32))) := by
  refine own_met pn_1 ?_
  intro p e s m below meth c T0 X0 hx hby hml hown hZ e0 hret hlk hnm
  rw [ef_1 m x0 x1 x2 x3]
  have N0 := Fr.nil n0
  show own_Fin _ _ _ _ _ _ _ (T0.setTop (mkF m 0 #[.val (.ref x0), .val (.int x1), .val (.int x2), .val (.int x3)] []))
  refine own_of (fun _ kk => XS.iloadN X0.here hx rfl (hb hby d1_0) rfl kk) ?_
  show own_Fin _ _ _ _ _ _ _ (T0.setTop (mkF m 1 #[.val (.ref x0), .val (.int x1), .val (.int x2), .val (.int x3)] [(.int x2)]))
  refine own_of (fun _ kk => XS.iloadN X0.here hx rfl (hb hby d1_1) rfl kk) ?_
  show own_Fin _ _ _ _ _ _ _ (T0.setTop (mkF m 2 #[.val (.ref x0), .val (.int x1), .val (.int x2), .val (.int x3)] [(.int x3), (.int x2)]))
  by_cases c2 : x2 < x3
  · refine own_of (fun _ kk => XS.icmpNo X0.here hx rfl (hb hby d1_2) rfl (tlt c2).2.1 kk) ?_
    show own_Fin _ _ _ _ _ _ _ (T0.setTop (mkF m 5 #[.val (.ref x0), .val (.int x1), .val (.int x2), .val (.int x3)] []))
    refine own_of (fun _ kk => XS.aloadN X0.here hx rfl (hb hby d1_5) rfl rfl kk) ?_
    show own_Fin _ _ _ _ _ _ _ (T0.setTop (mkF m 6 #[.val (.ref x0), .val (.int x1), .val (.int x2), .val (.int x3)] [(.ref x0)]))
    refine own_of (fun _ kk => XS.iloadN X0.here hx rfl (hb hby d1_6) rfl kk) ?_
    show own_Fin _ _ _ _ _ _ _ (T0.setTop (mkF m 7 #[.val (.ref x0), .val (.int x1), .val (.int x2), .val (.int x3)] [(.int x1), (.ref x0)]))
    refine own_of (fun _ kk => XS.iloadN X0.here hx rfl (hb hby d1_7) rfl kk) ?_
    show own_Fin _ _ _ _ _ _ _ (T0.setTop (mkF m 8 #[.val (.ref x0), .val (.int x1), .val (.int x2), .val (.int x3)] [(.int x2), (.int x1), (.ref x0)]))
    refine own_of (fun _ kk => XS.iadd X0.here hx rfl (hb hby d1_8) rfl kk) ?_
    show own_Fin _ _ _ _ _ _ _ (T0.setTop (mkF m 9 #[.val (.ref x0), .val (.int x1), .val (.int x2), .val (.int x3)] [(.int (x1 + x2)), (.ref x0)]))
    refine own_of (fun _ kk => XS.aloadN X0.here hx rfl (hb hby d1_9) rfl rfl kk) ?_
    show own_Fin _ _ _ _ _ _ _ (T0.setTop (mkF m 10 #[.val (.ref x0), .val (.int x1), .val (.int x2), .val (.int x3)] [(.ref x0), (.int (x1 + x2)), (.ref x0)]))
    refine own_of (fun _ kk => XS.iloadN X0.here hx rfl (hb hby d1_10) rfl kk) ?_
    show own_Fin _ _ _ _ _ _ _ (T0.setTop (mkF m 11 #[.val (.ref x0), .val (.int x1), .val (.int x2), .val (.int x3)] [(.int x1), (.ref x0), (.int (x1 + x2)), (.ref x0)]))
    refine own_of (fun _ kk => XS.iloadN X0.here hx rfl (hb hby d1_11) rfl kk) ?_
    show own_Fin _ _ _ _ _ _ _ (T0.setTop (mkF m 12 #[.val (.ref x0), .val (.int x1), .val (.int x2), .val (.int x3)] [(.int x2), (.int x1), (.ref x0), (.int (x1 + x2)), (.ref x0)]))
    refine own_of (fun _ kk => XS.iadd X0.here hx rfl (hb hby d1_12) rfl kk) ?_
    show own_Fin _ _ _ _ _ _ _ (T0.setTop (mkF m 13 #[.val (.ref x0), .val (.int x1), .val (.int x2), .val (.int x3)] [(.int (x1 + x2)), (.ref x0), (.int (x1 + x2)), (.ref x0)]))
    refine own_baload X0 hx hZ e0 A (i := (a + i)) (own_ai ha hi0 (by omega)) hai (v := (.int (f (a + i)))) rfl (hb hby d1_13) ?_
    show own_Fin _ _ _ _ _ _ _ (T0.setTop (mkF m 14 #[.val (.ref x0), .val (.int x1), .val (.int x2), .val (.int x3)] [(.int (f (a + i))), (.int (x1 + x2)), (.ref x0)]))
    refine own_of (fun _ kk => XS.sipush X0.here hx rfl (hb hby d1_14) kk) ?_
    show own_Fin _ _ _ _ _ _ _ (T0.setTop (mkF m 17 #[.val (.ref x0), .val (.int x1), .val (.int x2), .val (.int x3)] [(.int (128 : Int32)), (.int (f (a + i))), (.int (x1 + x2)), (.ref x0)]))
    refine own_of (fun _ kk => XS.ior X0.here hx rfl (hb hby d1_17) rfl kk) ?_
    show own_Fin _ _ _ _ _ _ _ (T0.setTop (mkF m 18 #[.val (.ref x0), .val (.int x1), .val (.int x2), .val (.int x3)] [(.int ((f (a + i)) ||| (128 : Int32))), (.int (x1 + x2)), (.ref x0)]))
    refine own_of (fun _ kk => XS.i2b X0.here hx rfl (hb hby d1_18) rfl kk) ?_
    show own_Fin _ _ _ _ _ _ _ (T0.setTop (mkF m 19 #[.val (.ref x0), .val (.int x1), .val (.int x2), .val (.int x3)] [(.int (own_i2b ((f (a + i)) ||| (128 : Int32)))), (.int (x1 + x2)), (.ref x0)]))
    refine own_bastore X0 hx hZ e0 A N0 ge (i := (a + i)) (own_ai ha hi0 (by omega)) hai (hb hby d1_19) ?_
    intro T1 h1 l1 X1 N1 e1 W1 A1
    replace A1 : own_Arf Z h1 x0 .byte 16 (fun j => if j = (a + i) then (.int (own_i2b (own_i2b ((f (a + i)) ||| (128 : Int32))))) else (fun j => .int (f j)) j) := A1
    have ZW1 : n0 ≤ h1.size := by rw [Wr.size W1]; exact Z0
    show own_Fin _ _ _ _ _ _ _ (T1.setTop (mkF m 20 #[.val (.ref x0), .val (.int x1), .val (.int x2), .val (.int x3)] []))
    refine own_of (fun _ kk => XS.goto X1.here hx rfl (pc0 := 20) (pc' := 42) rfl (hb hby d1_20) (by decide) (by decide) kk) ?_
    show own_Fin _ _ _ _ _ _ _ (T1.setTop (mkF m 42 #[.val (.ref x0), .val (.int x1), .val (.int x2), .val (.int x3)] []))
    exact own_retV X1 hx hlk e1 hret (hb hby d1_42) (by decide) (by decide) ⟨rfl, N1, ZW1, (fun j => if j = (a + i) then (own_i2b (own_i2b (f (a + i) ||| (128 : Int32)))) else f j), (A1.congr fun j _ => by dsimp only; split <;> rfl), (fun j hj => by dsimp only; rw [if_neg hj]), fun _ => by dsimp only; rw [if_pos rfl]; exact own_or128 _, fun e => by rw [e] at c2; exact absurd c2 (by rw [Int32.lt_iff_toInt_lt]; omega)⟩
  · refine own_of (fun _ kk => XS.icmpYes X0.here hx rfl (pc0 := 2) (pc' := 23) rfl (hb hby d1_2) rfl (flt c2).2.1 (by decide) (by decide) kk) ?_
    show own_Fin _ _ _ _ _ _ _ (T0.setTop (mkF m 23 #[.val (.ref x0), .val (.int x1), .val (.int x2), .val (.int x3)] []))
    refine own_of (fun _ kk => XS.iloadN X0.here hx rfl (hb hby d1_23) rfl kk) ?_
    show own_Fin _ _ _ _ _ _ _ (T0.setTop (mkF m 24 #[.val (.ref x0), .val (.int x1), .val (.int x2), .val (.int x3)] [(.int x2)]))
    refine own_of (fun _ kk => XS.iloadN X0.here hx rfl (hb hby d1_24) rfl kk) ?_
    show own_Fin _ _ _ _ _ _ _ (T0.setTop (mkF m 25 #[.val (.ref x0), .val (.int x1), .val (.int x2), .val (.int x3)] [(.int x3), (.int x2)]))
    by_cases c25 : x2 = x3
    · refine own_of (fun _ kk => XS.icmpNo X0.here hx rfl (hb hby d1_25) rfl (teq c25).2 kk) ?_
      show own_Fin _ _ _ _ _ _ _ (T0.setTop (mkF m 28 #[.val (.ref x0), .val (.int x1), .val (.int x2), .val (.int x3)] []))
      refine own_of (fun _ kk => XS.aloadN X0.here hx rfl (hb hby d1_28) rfl rfl kk) ?_
      show own_Fin _ _ _ _ _ _ _ (T0.setTop (mkF m 29 #[.val (.ref x0), .val (.int x1), .val (.int x2), .val (.int x3)] [(.ref x0)]))
      refine own_of (fun _ kk => XS.iloadN X0.here hx rfl (hb hby d1_29) rfl kk) ?_
      show own_Fin _ _ _ _ _ _ _ (T0.setTop (mkF m 30 #[.val (.ref x0), .val (.int x1), .val (.int x2), .val (.int x3)] [(.int x1), (.ref x0)]))
      refine own_of (fun _ kk => XS.iloadN X0.here hx rfl (hb hby d1_30) rfl kk) ?_
      show own_Fin _ _ _ _ _ _ _ (T0.setTop (mkF m 31 #[.val (.ref x0), .val (.int x1), .val (.int x2), .val (.int x3)] [(.int x2), (.int x1), (.ref x0)]))
      refine own_of (fun _ kk => XS.iadd X0.here hx rfl (hb hby d1_31) rfl kk) ?_
      show own_Fin _ _ _ _ _ _ _ (T0.setTop (mkF m 32 #[.val (.ref x0), .val (.int x1), .val (.int x2), .val (.int x3)] [(.int (x1 + x2)), (.ref x0)]))
      refine own_of (fun _ kk => XS.aloadN X0.here hx rfl (hb hby d1_32) rfl rfl kk) ?_
      show own_Fin _ _ _ _ _ _ _ (T0.setTop (mkF m 33 #[.val (.ref x0), .val (.int x1), .val (.int x2), .val (.int x3)] [(.ref x0), (.int (x1 + x2)), (.ref x0)]))
      refine own_of (fun _ kk => XS.iloadN X0.here hx rfl (hb hby d1_33) rfl kk) ?_
      show own_Fin _ _ _ _ _ _ _ (T0.setTop (mkF m 34 #[.val (.ref x0), .val (.int x1), .val (.int x2), .val (.int x3)] [(.int x1), (.ref x0), (.int (x1 + x2)), (.ref x0)]))
      refine own_of (fun _ kk => XS.iloadN X0.here hx rfl (hb hby d1_34) rfl kk) ?_
      show own_Fin _ _ _ _ _ _ _ (T0.setTop (mkF m 35 #[.val (.ref x0), .val (.int x1), .val (.int x2), .val (.int x3)] [(.int x2), (.int x1), (.ref x0), (.int (x1 + x2)), (.ref x0)]))
      refine own_of (fun _ kk => XS.iadd X0.here hx rfl (hb hby d1_35) rfl kk) ?_
      show own_Fin _ _ _ _ _ _ _ (T0.setTop (mkF m 36 #[.val (.ref x0), .val (.int x1), .val (.int x2), .val (.int x3)] [(.int (x1 + x2)), (.ref x0), (.int (x1 + x2)), (.ref x0)]))
      refine own_baload X0 hx hZ e0 A (i := (a + i)) (own_ai ha hi0 (by omega)) hai (v := (.int (f (a + i)))) rfl (hb hby d1_36) ?_
      show own_Fin _ _ _ _ _ _ _ (T0.setTop (mkF m 37 #[.val (.ref x0), .val (.int x1), .val (.int x2), .val (.int x3)] [(.int (f (a + i))), (.int (x1 + x2)), (.ref x0)]))
      refine own_of (fun _ kk => XS.bipush X0.here hx rfl (hb hby d1_37) kk) ?_
      show own_Fin _ _ _ _ _ _ _ (T0.setTop (mkF m 39 #[.val (.ref x0), .val (.int x1), .val (.int x2), .val (.int x3)] [(.int (127 : Int32)), (.int (f (a + i))), (.int (x1 + x2)), (.ref x0)]))
      refine own_of (fun _ kk => XS.iand X0.here hx rfl (hb hby d1_39) rfl kk) ?_
      show own_Fin _ _ _ _ _ _ _ (T0.setTop (mkF m 40 #[.val (.ref x0), .val (.int x1), .val (.int x2), .val (.int x3)] [(.int ((f (a + i)) &&& (127 : Int32))), (.int (x1 + x2)), (.ref x0)]))
      refine own_of (fun _ kk => XS.i2b X0.here hx rfl (hb hby d1_40) rfl kk) ?_
      show own_Fin _ _ _ _ _ _ _ (T0.setTop (mkF m 41 #[.val (.ref x0), .val (.int x1), .val (.int x2), .val (.int x3)] [(.int (own_i2b ((f (a + i)) &&& (127 : Int32)))), (.int (x1 + x2)), (.ref x0)]))
      refine own_bastore X0 hx hZ e0 A N0 ge (i := (a + i)) (own_ai ha hi0 (by omega)) hai (hb hby d1_41) ?_
      intro T2 h2 l2 X2 N2 e2 W2 A2
      replace A2 : own_Arf Z h2 x0 .byte 16 (fun j => if j = (a + i) then (.int (own_i2b (own_i2b ((f (a + i)) &&& (127 : Int32))))) else (fun j => .int (f j)) j) := A2
      have ZW2 : n0 ≤ h2.size := by rw [Wr.size W2]; exact Z0
      show own_Fin _ _ _ _ _ _ _ (T2.setTop (mkF m 42 #[.val (.ref x0), .val (.int x1), .val (.int x2), .val (.int x3)] []))
      exact own_retV X2 hx hlk e2 hret (hb hby d1_42) (by decide) (by decide) ⟨rfl, N2, ZW2, (fun j => if j = (a + i) then (own_i2b (own_i2b (f (a + i) &&& (127 : Int32)))) else f j), (A2.congr fun j _ => by dsimp only; split <;> rfl), (fun j hj => by dsimp only; rw [if_neg hj]), fun e => absurd e c2, fun _ => by dsimp only; rw [if_pos rfl]; exact own_and127 _⟩
    · refine own_of (fun _ kk => XS.icmpYes X0.here hx rfl (pc0 := 25) (pc' := 42) rfl (hb hby d1_25) rfl (feq c25).2 (by decide) (by decide) kk) ?_
      show own_Fin _ _ _ _ _ _ _ (T0.setTop (mkF m 42 #[.val (.ref x0), .val (.int x1), .val (.int x2), .val (.int x3)] []))
      exact own_retV X0 hx hlk e0 hret (hb hby d1_42) (by decide) (by decide) ⟨rfl, N0, Z0, f, A, fun _ _ => rfl, fun e => absurd e c2, fun e => absurd e c25⟩
def own_tm (r x2 x3 : Int32) : Int64 := if x3 < x2 then (0 : Int64) else (own_lshl (r &&& (127 : Int32)).toInt64 ((7 : Int32) * x2))
set_option maxRecDepth 65536 in
set_option maxHeartbeats 40000000 in
theorem met2 (l : Launch) (Z : State) (a0 : Array Value) (hw : ∀ d ∈ tables_1, d.before a0 Z = true) (x0 : Addr) (x1 : Int32) (x2 : Int32) (x3 : Int32) (f : Nat → Int32) (a : Nat) (i : Nat) (h0 : Heap) (n0 : Nat) (Z0 : n0 ≤ h0.size) (A : own_Arf Z h0 x0 .byte 16 (fun j => .int (f j))) (ha : x1.toInt = (a : Int)) (hi0 : x2.toInt = (i : Int)) (hai : a + i < 16) :
    own_Met l Z (⟨"com/example/vestwright/vestwright/csv/ExternalSortVarLongAtPinLaw", "term", "([BIII)J"⟩ : MethodName) method_4_code 4 (some .long) { frames := 0, cells := 0, slots := 0, locals := 0 } #[(.ref x0), (.int x1), (.int x2), (.int x3)] h0 (fun v h L => own_Pure (.long (own_tm (f (a + i)) x2 x3)) h0 v h L) := by
  refine own_met pn_2 ?_
  intro p e s m below meth c T0 X0 hx hby hml hown hZ e0 hret hlk hnm
  rw [ef_2 m x0 x1 x2 x3]
  have N0 := Fr.nil n0
  show own_Fin _ _ _ _ _ _ _ (T0.setTop (mkF m 0 #[.val (.ref x0), .val (.int x1), .val (.int x2), .val (.int x3)] []))
  refine own_of (fun _ kk => XS.iloadN X0.here hx rfl (hb hby d2_0) rfl kk) ?_
  show own_Fin _ _ _ _ _ _ _ (T0.setTop (mkF m 1 #[.val (.ref x0), .val (.int x1), .val (.int x2), .val (.int x3)] [(.int x2)]))
  refine own_of (fun _ kk => XS.iloadN X0.here hx rfl (hb hby d2_1) rfl kk) ?_
  show own_Fin _ _ _ _ _ _ _ (T0.setTop (mkF m 2 #[.val (.ref x0), .val (.int x1), .val (.int x2), .val (.int x3)] [(.int x3), (.int x2)]))
  by_cases c2 : x3 < x2
  · refine own_of (fun _ kk => XS.icmpNo X0.here hx rfl (hb hby d2_2) rfl (tlt c2).2.2.2 kk) ?_
    show own_Fin _ _ _ _ _ _ _ (T0.setTop (mkF m 5 #[.val (.ref x0), .val (.int x1), .val (.int x2), .val (.int x3)] []))
    refine own_of (fun _ kk => XS.lconst X0.here hx rfl (hb hby d2_5) kk) ?_
    show own_Fin _ _ _ _ _ _ _ (T0.setTop (mkF m 6 #[.val (.ref x0), .val (.int x1), .val (.int x2), .val (.int x3)] [(.long (0 : Int64))]))
    exact own_retJ X0 hx hlk e0 hret (hb hby d2_6) (by decide) (by decide) ⟨by first | (simp only [own_tm, if_pos c2]; done) | (simp only [own_tm, if_pos c2]; rfl), rfl, rfl⟩
  · refine own_of (fun _ kk => XS.icmpYes X0.here hx rfl (pc0 := 2) (pc' := 7) rfl (hb hby d2_2) rfl (flt c2).2.2.2 (by decide) (by decide) kk) ?_
    show own_Fin _ _ _ _ _ _ _ (T0.setTop (mkF m 7 #[.val (.ref x0), .val (.int x1), .val (.int x2), .val (.int x3)] []))
    refine own_of (fun _ kk => XS.aloadN X0.here hx rfl (hb hby d2_7) rfl rfl kk) ?_
    show own_Fin _ _ _ _ _ _ _ (T0.setTop (mkF m 8 #[.val (.ref x0), .val (.int x1), .val (.int x2), .val (.int x3)] [(.ref x0)]))
    refine own_of (fun _ kk => XS.iloadN X0.here hx rfl (hb hby d2_8) rfl kk) ?_
    show own_Fin _ _ _ _ _ _ _ (T0.setTop (mkF m 9 #[.val (.ref x0), .val (.int x1), .val (.int x2), .val (.int x3)] [(.int x1), (.ref x0)]))
    refine own_of (fun _ kk => XS.iloadN X0.here hx rfl (hb hby d2_9) rfl kk) ?_
    show own_Fin _ _ _ _ _ _ _ (T0.setTop (mkF m 10 #[.val (.ref x0), .val (.int x1), .val (.int x2), .val (.int x3)] [(.int x2), (.int x1), (.ref x0)]))
    refine own_of (fun _ kk => XS.iadd X0.here hx rfl (hb hby d2_10) rfl kk) ?_
    show own_Fin _ _ _ _ _ _ _ (T0.setTop (mkF m 11 #[.val (.ref x0), .val (.int x1), .val (.int x2), .val (.int x3)] [(.int (x1 + x2)), (.ref x0)]))
    refine own_baload X0 hx hZ e0 A (i := (a + i)) (own_ai ha hi0 (by omega)) hai (v := (.int (f (a + i)))) rfl (hb hby d2_11) ?_
    show own_Fin _ _ _ _ _ _ _ (T0.setTop (mkF m 12 #[.val (.ref x0), .val (.int x1), .val (.int x2), .val (.int x3)] [(.int (f (a + i)))]))
    refine own_of (fun _ kk => XS.bipush X0.here hx rfl (hb hby d2_12) kk) ?_
    show own_Fin _ _ _ _ _ _ _ (T0.setTop (mkF m 14 #[.val (.ref x0), .val (.int x1), .val (.int x2), .val (.int x3)] [(.int (127 : Int32)), (.int (f (a + i)))]))
    refine own_of (fun _ kk => XS.iand X0.here hx rfl (hb hby d2_14) rfl kk) ?_
    show own_Fin _ _ _ _ _ _ _ (T0.setTop (mkF m 15 #[.val (.ref x0), .val (.int x1), .val (.int x2), .val (.int x3)] [(.int ((f (a + i)) &&& (127 : Int32)))]))
    refine own_of (fun _ kk => XS.i2l X0.here hx rfl (hb hby d2_15) rfl kk) ?_
    show own_Fin _ _ _ _ _ _ _ (T0.setTop (mkF m 16 #[.val (.ref x0), .val (.int x1), .val (.int x2), .val (.int x3)] [(.long ((f (a + i)) &&& (127 : Int32)).toInt64)]))
    refine own_of (fun _ kk => XS.bipush X0.here hx rfl (hb hby d2_16) kk) ?_
    show own_Fin _ _ _ _ _ _ _ (T0.setTop (mkF m 18 #[.val (.ref x0), .val (.int x1), .val (.int x2), .val (.int x3)] [(.int (7 : Int32)), (.long ((f (a + i)) &&& (127 : Int32)).toInt64)]))
    refine own_of (fun _ kk => XS.iloadN X0.here hx rfl (hb hby d2_18) rfl kk) ?_
    show own_Fin _ _ _ _ _ _ _ (T0.setTop (mkF m 19 #[.val (.ref x0), .val (.int x1), .val (.int x2), .val (.int x3)] [(.int x2), (.int (7 : Int32)), (.long ((f (a + i)) &&& (127 : Int32)).toInt64)]))
    refine own_of (fun _ kk => XS.imul X0.here hx rfl (hb hby d2_19) rfl kk) ?_
    show own_Fin _ _ _ _ _ _ _ (T0.setTop (mkF m 20 #[.val (.ref x0), .val (.int x1), .val (.int x2), .val (.int x3)] [(.int ((7 : Int32) * x2)), (.long ((f (a + i)) &&& (127 : Int32)).toInt64)]))
    refine own_of (fun _ kk => XS.lshl X0.here hx rfl (hb hby d2_20) rfl kk) ?_
    show own_Fin _ _ _ _ _ _ _ (T0.setTop (mkF m 21 #[.val (.ref x0), .val (.int x1), .val (.int x2), .val (.int x3)] [(.long (own_lshl ((f (a + i)) &&& (127 : Int32)).toInt64 ((7 : Int32) * x2)))]))
    exact own_retJ X0 hx hlk e0 hret (hb hby d2_21) (by decide) (by decide) ⟨by first | (simp only [own_tm, if_neg c2]; done) | (simp only [own_tm, if_neg c2]; rfl), rfl, rfl⟩
def own_sl (x : Int64) (k : Nat) : Int64 := .ofBitVec (x.toBitVec <<< k)
theorem own_lshl_sl (x : Int64) (q : Int32) (k : Nat) (hk : q.toBitVec.toNat % 64 = k) : own_lshl x q = own_sl x k := by
  apply Int64.toBitVec_inj.mp
  show x.toBitVec <<< ((q &&& 0x3f).toInt64.toBitVec.smod 64) = x.toBitVec <<< k
  rw [BitVec.shiftLeft_eq', (sm64 q k hk).1, smod64 k (sm64 q k hk).2]
def own_acc (g : Nat → Int32) : Nat → Int64
  | 0 => 0
  | n + 1 => own_acc g n ||| own_sl (g n &&& (127 : Int32)).toInt64 (7 * n)
theorem own_natOf (x : Int32) (k : Nat) (h : x.toInt = (k : Int)) : x.toBitVec.toNat = k := by
  have h1 : x.toBitVec.toInt = (k : Int) := h
  have h2 := x.toBitVec.isLt
  rw [BitVec.toInt_eq_toNat_cond] at h1
  split at h1 <;> omega
theorem own_p1 {p : Int32} {a i : Nat} (hp : p.toInt = ((a + i : Nat) : Int)) (h : a + i < 100) : (p + 1).toInt = ((a + (i + 1) : Nat) : Int) := by
  have h1 := c_iadd p 1
  have h2 := rng32 (p + 1)
  have k : (1 : Int32).toInt = 1 := by decide
  omega
theorem own_p7 {p : Int32} {i : Nat} (hp : p.toInt = ((7 * i : Nat) : Int)) (h : i < 100) : (p + 7).toInt = ((7 * (i + 1) : Nat) : Int) := by
  have h1 := c_iadd p 7
  have h2 := rng32 (p + 7)
  have k : (7 : Int32).toInt = 7 := by decide
  omega
theorem own_sh (x : Int64) {q : Int32} {i : Nat} (hq : q.toInt = ((7 * i : Nat) : Int)) (h : i ≤ 8) : own_lshl x q = own_sl x (7 * i) := own_lshl_sl x q _ (by rw [own_natOf q _ hq]; omega)
set_option maxRecDepth 65536 in
set_option maxHeartbeats 40000000 in
theorem own_loop (l : Launch) (Z : State) (a0 : Array Value) (hw : ∀ d ∈ tables_1, d.before a0 Z = true) (x0 : Addr) (x1 : Int32) (f : Nat → Int32) (a : Nat) (kk : Nat) (hh : Heap) (n0 : Nat) {p : Program} {e : Env} {R : Room} {s : State} {m : MethodId} {args : Array Value} {below : List Frame} {meth : Method} {c : Code} (hx : p.tables.exec = Jvm.exec) (hby : c.code = prog_18_method_18_code) (hml : c.maxLocals = 6) (hown : s.vm.findClass "com/example/vestwright/vestwright/csv/ExternalSort" = some m.cls) (hZ : Z.Warmed39 s.vm) (hret : meth.sig.returnType = some .long) (hlk : meth.locks = false) (hst : (f (a + kk) &&& (128 : Int32)) = (0 : Int32)) (hco : ∀ t, t < kk → ¬ (f (a + t) &&& (128 : Int32)) = (0 : Int32)) (hk8 : kk ≤ 8) (hak : a + kk < 16) :
    ∀ (d : Nat) (i : Nat) (p1 : Int32) (s4 : Int32) (b5 : Int32) (T0 : State) (locs : List Loc) (h0 : Heap), Stand p l e R s m args below meth c T0 locs 0 0 → Fr n0 locs → n0 ≤ h0.size → T0.heap = h0 → (i + d = kk) → (p1.toInt = ((a + i : Nat) : Int)) → (s4.toInt = ((7 * i : Nat) : Int)) → (own_Arf Z h0 x0 .byte 16 (fun j => .int (f j))) → (h0 = hh) → (locs = []) → own_Fin p e below s 0 0 (fun v h L => own_Pure (.long (own_acc (fun t => f (a + t)) (kk + 1))) hh v h L) (T0.setTop (mkF m 5 #[.val (.ref x0), .val (.int p1), .val (.long (own_acc (fun t => f (a + t)) i)), .second, .val (.int s4), .val (.int b5)] [])) := by
  intro d
  induction d with
  | zero =>
    intro i p1 s4 b5 T0 locs h0 X0 N0 Z0 e0 hm hp hs A hh0 hl
    obtain rfl : i = kk := by omega
    show own_Fin _ _ _ _ _ _ _ (T0.setTop (mkF m 5 #[.val (.ref x0), .val (.int p1), .val (.long (own_acc (fun t => f (a + t)) i)), .second, .val (.int s4), .val (.int b5)] []))
    refine own_of (fun _ kk => XS.aloadN X0.here hx rfl (hb hby d3_5) rfl rfl kk) ?_
    show own_Fin _ _ _ _ _ _ _ (T0.setTop (mkF m 6 #[.val (.ref x0), .val (.int p1), .val (.long (own_acc (fun t => f (a + t)) i)), .second, .val (.int s4), .val (.int b5)] [(.ref x0)]))
    refine own_of (fun _ kk => XS.iloadN X0.here hx rfl (hb hby d3_6) rfl kk) ?_
    show own_Fin _ _ _ _ _ _ _ (T0.setTop (mkF m 7 #[.val (.ref x0), .val (.int p1), .val (.long (own_acc (fun t => f (a + t)) i)), .second, .val (.int s4), .val (.int b5)] [(.int p1), (.ref x0)]))
    refine own_of (fun _ kk => XS.iinc X0.here hx rfl (hb hby d3_7) rfl (l' := #[.val (.ref x0), .val (.int (p1 + (1 : Int32))), .val (.long (own_acc (fun t => f (a + t)) i)), .second, .val (.int s4), .val (.int b5)]) rfl kk) ?_
    show own_Fin _ _ _ _ _ _ _ (T0.setTop (mkF m 10 #[.val (.ref x0), .val (.int (p1 + (1 : Int32))), .val (.long (own_acc (fun t => f (a + t)) i)), .second, .val (.int s4), .val (.int b5)] [(.int p1), (.ref x0)]))
    refine own_baload X0 hx hZ e0 A (i := (a + i)) hp (by omega) (v := (.int (f (a + i)))) rfl (hb hby d3_10) ?_
    show own_Fin _ _ _ _ _ _ _ (T0.setTop (mkF m 11 #[.val (.ref x0), .val (.int (p1 + (1 : Int32))), .val (.long (own_acc (fun t => f (a + t)) i)), .second, .val (.int s4), .val (.int b5)] [(.int (f (a + i)))]))
    refine own_of (fun _ kk => XS.istore X0.here hx rfl (hb hby d3_11) rfl (l' := #[.val (.ref x0), .val (.int (p1 + (1 : Int32))), .val (.long (own_acc (fun t => f (a + t)) i)), .second, .val (.int s4), .val (.int (f (a + i)))]) rfl kk) ?_
    show own_Fin _ _ _ _ _ _ _ (T0.setTop (mkF m 13 #[.val (.ref x0), .val (.int (p1 + (1 : Int32))), .val (.long (own_acc (fun t => f (a + t)) i)), .second, .val (.int s4), .val (.int (f (a + i)))] []))
    refine own_of (fun _ kk => XS.lloadN X0.here hx rfl (hb hby d3_13) rfl kk) ?_
    show own_Fin _ _ _ _ _ _ _ (T0.setTop (mkF m 14 #[.val (.ref x0), .val (.int (p1 + (1 : Int32))), .val (.long (own_acc (fun t => f (a + t)) i)), .second, .val (.int s4), .val (.int (f (a + i)))] [(.long (own_acc (fun t => f (a + t)) i))]))
    refine own_of (fun _ kk => XS.iload X0.here hx rfl (hb hby d3_14) rfl kk) ?_
    show own_Fin _ _ _ _ _ _ _ (T0.setTop (mkF m 16 #[.val (.ref x0), .val (.int (p1 + (1 : Int32))), .val (.long (own_acc (fun t => f (a + t)) i)), .second, .val (.int s4), .val (.int (f (a + i)))] [(.int (f (a + i))), (.long (own_acc (fun t => f (a + t)) i))]))
    refine own_of (fun _ kk => XS.bipush X0.here hx rfl (hb hby d3_16) kk) ?_
    show own_Fin _ _ _ _ _ _ _ (T0.setTop (mkF m 18 #[.val (.ref x0), .val (.int (p1 + (1 : Int32))), .val (.long (own_acc (fun t => f (a + t)) i)), .second, .val (.int s4), .val (.int (f (a + i)))] [(.int (127 : Int32)), (.int (f (a + i))), (.long (own_acc (fun t => f (a + t)) i))]))
    refine own_of (fun _ kk => XS.iand X0.here hx rfl (hb hby d3_18) rfl kk) ?_
    show own_Fin _ _ _ _ _ _ _ (T0.setTop (mkF m 19 #[.val (.ref x0), .val (.int (p1 + (1 : Int32))), .val (.long (own_acc (fun t => f (a + t)) i)), .second, .val (.int s4), .val (.int (f (a + i)))] [(.int ((f (a + i)) &&& (127 : Int32))), (.long (own_acc (fun t => f (a + t)) i))]))
    refine own_of (fun _ kk => XS.i2l X0.here hx rfl (hb hby d3_19) rfl kk) ?_
    show own_Fin _ _ _ _ _ _ _ (T0.setTop (mkF m 20 #[.val (.ref x0), .val (.int (p1 + (1 : Int32))), .val (.long (own_acc (fun t => f (a + t)) i)), .second, .val (.int s4), .val (.int (f (a + i)))] [(.long ((f (a + i)) &&& (127 : Int32)).toInt64), (.long (own_acc (fun t => f (a + t)) i))]))
    refine own_of (fun _ kk => XS.iload X0.here hx rfl (hb hby d3_20) rfl kk) ?_
    show own_Fin _ _ _ _ _ _ _ (T0.setTop (mkF m 22 #[.val (.ref x0), .val (.int (p1 + (1 : Int32))), .val (.long (own_acc (fun t => f (a + t)) i)), .second, .val (.int s4), .val (.int (f (a + i)))] [(.int s4), (.long ((f (a + i)) &&& (127 : Int32)).toInt64), (.long (own_acc (fun t => f (a + t)) i))]))
    refine own_of (fun _ kk => XS.lshl X0.here hx rfl (hb hby d3_22) rfl kk) ?_
    show own_Fin _ _ _ _ _ _ _ (T0.setTop (mkF m 23 #[.val (.ref x0), .val (.int (p1 + (1 : Int32))), .val (.long (own_acc (fun t => f (a + t)) i)), .second, .val (.int s4), .val (.int (f (a + i)))] [(.long (own_lshl ((f (a + i)) &&& (127 : Int32)).toInt64 s4)), (.long (own_acc (fun t => f (a + t)) i))]))
    refine own_of (fun _ kk => XS.lor X0.here hx rfl (hb hby d3_23) rfl kk) ?_
    show own_Fin _ _ _ _ _ _ _ (T0.setTop (mkF m 24 #[.val (.ref x0), .val (.int (p1 + (1 : Int32))), .val (.long (own_acc (fun t => f (a + t)) i)), .second, .val (.int s4), .val (.int (f (a + i)))] [(.long ((own_acc (fun t => f (a + t)) i) ||| (own_lshl ((f (a + i)) &&& (127 : Int32)).toInt64 s4)))]))
    refine own_of (fun _ kk => XS.lstoreN X0.here hx rfl (hb hby d3_24) rfl (l' := #[.val (.ref x0), .val (.int (p1 + (1 : Int32))), .val (.long ((own_acc (fun t => f (a + t)) i) ||| (own_lshl ((f (a + i)) &&& (127 : Int32)).toInt64 s4))), .second, .val (.int s4), .val (.int (f (a + i)))]) rfl kk) ?_
    show own_Fin _ _ _ _ _ _ _ (T0.setTop (mkF m 25 #[.val (.ref x0), .val (.int (p1 + (1 : Int32))), .val (.long ((own_acc (fun t => f (a + t)) i) ||| (own_lshl ((f (a + i)) &&& (127 : Int32)).toInt64 s4))), .second, .val (.int s4), .val (.int (f (a + i)))] []))
    refine own_of (fun _ kk => XS.iload X0.here hx rfl (hb hby d3_25) rfl kk) ?_
    show own_Fin _ _ _ _ _ _ _ (T0.setTop (mkF m 27 #[.val (.ref x0), .val (.int (p1 + (1 : Int32))), .val (.long ((own_acc (fun t => f (a + t)) i) ||| (own_lshl ((f (a + i)) &&& (127 : Int32)).toInt64 s4))), .second, .val (.int s4), .val (.int (f (a + i)))] [(.int (f (a + i)))]))
    refine own_of (fun _ kk => XS.sipush X0.here hx rfl (hb hby d3_27) kk) ?_
    show own_Fin _ _ _ _ _ _ _ (T0.setTop (mkF m 30 #[.val (.ref x0), .val (.int (p1 + (1 : Int32))), .val (.long ((own_acc (fun t => f (a + t)) i) ||| (own_lshl ((f (a + i)) &&& (127 : Int32)).toInt64 s4))), .second, .val (.int s4), .val (.int (f (a + i)))] [(.int (128 : Int32)), (.int (f (a + i)))]))
    refine own_of (fun _ kk => XS.iand X0.here hx rfl (hb hby d3_30) rfl kk) ?_
    show own_Fin _ _ _ _ _ _ _ (T0.setTop (mkF m 31 #[.val (.ref x0), .val (.int (p1 + (1 : Int32))), .val (.long ((own_acc (fun t => f (a + t)) i) ||| (own_lshl ((f (a + i)) &&& (127 : Int32)).toInt64 s4))), .second, .val (.int s4), .val (.int (f (a + i)))] [(.int ((f (a + i)) &&& (128 : Int32)))]))
    refine own_of (fun _ kk => XS.ifNo X0.here hx rfl (hb hby d3_31) rfl ((if0 _ _).trans (teq hst).2) kk) ?_
    show own_Fin _ _ _ _ _ _ _ (T0.setTop (mkF m 34 #[.val (.ref x0), .val (.int (p1 + (1 : Int32))), .val (.long ((own_acc (fun t => f (a + t)) i) ||| (own_lshl ((f (a + i)) &&& (127 : Int32)).toInt64 s4))), .second, .val (.int s4), .val (.int (f (a + i)))] []))
    refine own_of (fun _ kk => XS.lloadN X0.here hx rfl (hb hby d3_34) rfl kk) ?_
    show own_Fin _ _ _ _ _ _ _ (T0.setTop (mkF m 35 #[.val (.ref x0), .val (.int (p1 + (1 : Int32))), .val (.long ((own_acc (fun t => f (a + t)) i) ||| (own_lshl ((f (a + i)) &&& (127 : Int32)).toInt64 s4))), .second, .val (.int s4), .val (.int (f (a + i)))] [(.long ((own_acc (fun t => f (a + t)) i) ||| (own_lshl ((f (a + i)) &&& (127 : Int32)).toInt64 s4)))]))
    exact own_retJ X0 hx hlk e0 hret (hb hby d3_35) (by decide) (by decide) ⟨by rw [own_sh _ hs (by omega)]; rfl, hh0, hl⟩
  | succ d ih =>
    intro i p1 s4 b5 T0 locs h0 X0 N0 Z0 e0 hm hp hs A hh0 hl
    show own_Fin _ _ _ _ _ _ _ (T0.setTop (mkF m 5 #[.val (.ref x0), .val (.int p1), .val (.long (own_acc (fun t => f (a + t)) i)), .second, .val (.int s4), .val (.int b5)] []))
    refine own_of (fun _ kk => XS.aloadN X0.here hx rfl (hb hby d3_5) rfl rfl kk) ?_
    show own_Fin _ _ _ _ _ _ _ (T0.setTop (mkF m 6 #[.val (.ref x0), .val (.int p1), .val (.long (own_acc (fun t => f (a + t)) i)), .second, .val (.int s4), .val (.int b5)] [(.ref x0)]))
    refine own_of (fun _ kk => XS.iloadN X0.here hx rfl (hb hby d3_6) rfl kk) ?_
    show own_Fin _ _ _ _ _ _ _ (T0.setTop (mkF m 7 #[.val (.ref x0), .val (.int p1), .val (.long (own_acc (fun t => f (a + t)) i)), .second, .val (.int s4), .val (.int b5)] [(.int p1), (.ref x0)]))
    refine own_of (fun _ kk => XS.iinc X0.here hx rfl (hb hby d3_7) rfl (l' := #[.val (.ref x0), .val (.int (p1 + (1 : Int32))), .val (.long (own_acc (fun t => f (a + t)) i)), .second, .val (.int s4), .val (.int b5)]) rfl kk) ?_
    show own_Fin _ _ _ _ _ _ _ (T0.setTop (mkF m 10 #[.val (.ref x0), .val (.int (p1 + (1 : Int32))), .val (.long (own_acc (fun t => f (a + t)) i)), .second, .val (.int s4), .val (.int b5)] [(.int p1), (.ref x0)]))
    refine own_baload X0 hx hZ e0 A (i := (a + i)) hp (by omega) (v := (.int (f (a + i)))) rfl (hb hby d3_10) ?_
    show own_Fin _ _ _ _ _ _ _ (T0.setTop (mkF m 11 #[.val (.ref x0), .val (.int (p1 + (1 : Int32))), .val (.long (own_acc (fun t => f (a + t)) i)), .second, .val (.int s4), .val (.int b5)] [(.int (f (a + i)))]))
    refine own_of (fun _ kk => XS.istore X0.here hx rfl (hb hby d3_11) rfl (l' := #[.val (.ref x0), .val (.int (p1 + (1 : Int32))), .val (.long (own_acc (fun t => f (a + t)) i)), .second, .val (.int s4), .val (.int (f (a + i)))]) rfl kk) ?_
    show own_Fin _ _ _ _ _ _ _ (T0.setTop (mkF m 13 #[.val (.ref x0), .val (.int (p1 + (1 : Int32))), .val (.long (own_acc (fun t => f (a + t)) i)), .second, .val (.int s4), .val (.int (f (a + i)))] []))
    refine own_of (fun _ kk => XS.lloadN X0.here hx rfl (hb hby d3_13) rfl kk) ?_
    show own_Fin _ _ _ _ _ _ _ (T0.setTop (mkF m 14 #[.val (.ref x0), .val (.int (p1 + (1 : Int32))), .val (.long (own_acc (fun t => f (a + t)) i)), .second, .val (.int s4), .val (.int (f (a + i)))] [(.long (own_acc (fun t => f (a + t)) i))]))
    refine own_of (fun _ kk => XS.iload X0.here hx rfl (hb hby d3_14) rfl kk) ?_
    show own_Fin _ _ _ _ _ _ _ (T0.setTop (mkF m 16 #[.val (.ref x0), .val (.int (p1 + (1 : Int32))), .val (.long (own_acc (fun t => f (a + t)) i)), .second, .val (.int s4), .val (.int (f (a + i)))] [(.int (f (a + i))), (.long (own_acc (fun t => f (a + t)) i))]))
    refine own_of (fun _ kk => XS.bipush X0.here hx rfl (hb hby d3_16) kk) ?_
    show own_Fin _ _ _ _ _ _ _ (T0.setTop (mkF m 18 #[.val (.ref x0), .val (.int (p1 + (1 : Int32))), .val (.long (own_acc (fun t => f (a + t)) i)), .second, .val (.int s4), .val (.int (f (a + i)))] [(.int (127 : Int32)), (.int (f (a + i))), (.long (own_acc (fun t => f (a + t)) i))]))
    refine own_of (fun _ kk => XS.iand X0.here hx rfl (hb hby d3_18) rfl kk) ?_
    show own_Fin _ _ _ _ _ _ _ (T0.setTop (mkF m 19 #[.val (.ref x0), .val (.int (p1 + (1 : Int32))), .val (.long (own_acc (fun t => f (a + t)) i)), .second, .val (.int s4), .val (.int (f (a + i)))] [(.int ((f (a + i)) &&& (127 : Int32))), (.long (own_acc (fun t => f (a + t)) i))]))
    refine own_of (fun _ kk => XS.i2l X0.here hx rfl (hb hby d3_19) rfl kk) ?_
    show own_Fin _ _ _ _ _ _ _ (T0.setTop (mkF m 20 #[.val (.ref x0), .val (.int (p1 + (1 : Int32))), .val (.long (own_acc (fun t => f (a + t)) i)), .second, .val (.int s4), .val (.int (f (a + i)))] [(.long ((f (a + i)) &&& (127 : Int32)).toInt64), (.long (own_acc (fun t => f (a + t)) i))]))
    refine own_of (fun _ kk => XS.iload X0.here hx rfl (hb hby d3_20) rfl kk) ?_
    show own_Fin _ _ _ _ _ _ _ (T0.setTop (mkF m 22 #[.val (.ref x0), .val (.int (p1 + (1 : Int32))), .val (.long (own_acc (fun t => f (a + t)) i)), .second, .val (.int s4), .val (.int (f (a + i)))] [(.int s4), (.long ((f (a + i)) &&& (127 : Int32)).toInt64), (.long (own_acc (fun t => f (a + t)) i))]))
    refine own_of (fun _ kk => XS.lshl X0.here hx rfl (hb hby d3_22) rfl kk) ?_
    show own_Fin _ _ _ _ _ _ _ (T0.setTop (mkF m 23 #[.val (.ref x0), .val (.int (p1 + (1 : Int32))), .val (.long (own_acc (fun t => f (a + t)) i)), .second, .val (.int s4), .val (.int (f (a + i)))] [(.long (own_lshl ((f (a + i)) &&& (127 : Int32)).toInt64 s4)), (.long (own_acc (fun t => f (a + t)) i))]))
    refine own_of (fun _ kk => XS.lor X0.here hx rfl (hb hby d3_23) rfl kk) ?_
    show own_Fin _ _ _ _ _ _ _ (T0.setTop (mkF m 24 #[.val (.ref x0), .val (.int (p1 + (1 : Int32))), .val (.long (own_acc (fun t => f (a + t)) i)), .second, .val (.int s4), .val (.int (f (a + i)))] [(.long ((own_acc (fun t => f (a + t)) i) ||| (own_lshl ((f (a + i)) &&& (127 : Int32)).toInt64 s4)))]))
    refine own_of (fun _ kk => XS.lstoreN X0.here hx rfl (hb hby d3_24) rfl (l' := #[.val (.ref x0), .val (.int (p1 + (1 : Int32))), .val (.long ((own_acc (fun t => f (a + t)) i) ||| (own_lshl ((f (a + i)) &&& (127 : Int32)).toInt64 s4))), .second, .val (.int s4), .val (.int (f (a + i)))]) rfl kk) ?_
    show own_Fin _ _ _ _ _ _ _ (T0.setTop (mkF m 25 #[.val (.ref x0), .val (.int (p1 + (1 : Int32))), .val (.long ((own_acc (fun t => f (a + t)) i) ||| (own_lshl ((f (a + i)) &&& (127 : Int32)).toInt64 s4))), .second, .val (.int s4), .val (.int (f (a + i)))] []))
    refine own_of (fun _ kk => XS.iload X0.here hx rfl (hb hby d3_25) rfl kk) ?_
    show own_Fin _ _ _ _ _ _ _ (T0.setTop (mkF m 27 #[.val (.ref x0), .val (.int (p1 + (1 : Int32))), .val (.long ((own_acc (fun t => f (a + t)) i) ||| (own_lshl ((f (a + i)) &&& (127 : Int32)).toInt64 s4))), .second, .val (.int s4), .val (.int (f (a + i)))] [(.int (f (a + i)))]))
    refine own_of (fun _ kk => XS.sipush X0.here hx rfl (hb hby d3_27) kk) ?_
    show own_Fin _ _ _ _ _ _ _ (T0.setTop (mkF m 30 #[.val (.ref x0), .val (.int (p1 + (1 : Int32))), .val (.long ((own_acc (fun t => f (a + t)) i) ||| (own_lshl ((f (a + i)) &&& (127 : Int32)).toInt64 s4))), .second, .val (.int s4), .val (.int (f (a + i)))] [(.int (128 : Int32)), (.int (f (a + i)))]))
    refine own_of (fun _ kk => XS.iand X0.here hx rfl (hb hby d3_30) rfl kk) ?_
    show own_Fin _ _ _ _ _ _ _ (T0.setTop (mkF m 31 #[.val (.ref x0), .val (.int (p1 + (1 : Int32))), .val (.long ((own_acc (fun t => f (a + t)) i) ||| (own_lshl ((f (a + i)) &&& (127 : Int32)).toInt64 s4))), .second, .val (.int s4), .val (.int (f (a + i)))] [(.int ((f (a + i)) &&& (128 : Int32)))]))
    refine own_of (fun _ kk => XS.ifYes X0.here hx rfl (pc0 := 31) (pc' := 36) rfl (hb hby d3_31) rfl ((if0 _ _).trans (feq (hco i (by omega))).2) (by decide) (by decide) kk) ?_
    show own_Fin _ _ _ _ _ _ _ (T0.setTop (mkF m 36 #[.val (.ref x0), .val (.int (p1 + (1 : Int32))), .val (.long ((own_acc (fun t => f (a + t)) i) ||| (own_lshl ((f (a + i)) &&& (127 : Int32)).toInt64 s4))), .second, .val (.int s4), .val (.int (f (a + i)))] []))
    refine own_of (fun _ kk => XS.iinc X0.here hx rfl (hb hby d3_36) rfl (l' := #[.val (.ref x0), .val (.int (p1 + (1 : Int32))), .val (.long ((own_acc (fun t => f (a + t)) i) ||| (own_lshl ((f (a + i)) &&& (127 : Int32)).toInt64 s4))), .second, .val (.int (s4 + (7 : Int32))), .val (.int (f (a + i)))]) rfl kk) ?_
    show own_Fin _ _ _ _ _ _ _ (T0.setTop (mkF m 39 #[.val (.ref x0), .val (.int (p1 + (1 : Int32))), .val (.long ((own_acc (fun t => f (a + t)) i) ||| (own_lshl ((f (a + i)) &&& (127 : Int32)).toInt64 s4))), .second, .val (.int (s4 + (7 : Int32))), .val (.int (f (a + i)))] []))
    refine own_of (fun _ kk => XS.goto X0.here hx rfl (pc0 := 39) (pc' := 5) rfl (hb hby d3_39) (by decide) (by decide) kk) ?_
    show own_Fin _ _ _ _ _ _ _ (T0.setTop (mkF m 5 #[.val (.ref x0), .val (.int (p1 + (1 : Int32))), .val (.long ((own_acc (fun t => f (a + t)) i) ||| (own_lshl ((f (a + i)) &&& (127 : Int32)).toInt64 s4))), .second, .val (.int (s4 + (7 : Int32))), .val (.int (f (a + i)))] []))
    rw [own_sh _ hs (by omega)]
    exact ih (i + 1) (p1 + 1) (s4 + 7) (f (a + i)) T0 _ h0 X0 N0 Z0 e0 (by omega) (own_p1 hp (by omega)) (own_p7 hs (by omega)) A hh0 hl
set_option maxRecDepth 65536 in
set_option maxHeartbeats 40000000 in
theorem met3 (l : Launch) (Z : State) (a0 : Array Value) (hw : ∀ d ∈ tables_1, d.before a0 Z = true) (x0 : Addr) (x1 : Int32) (f : Nat → Int32) (a : Nat) (kk : Nat) (h0 : Heap) (n0 : Nat) (Z0 : n0 ≤ h0.size) (hst : (f (a + kk) &&& (128 : Int32)) = (0 : Int32)) (hco : ∀ t, t < kk → ¬ (f (a + t) &&& (128 : Int32)) = (0 : Int32)) (hk8 : kk ≤ 8) (hak : a + kk < 16) (ha : x1.toInt = (a : Int)) (A : own_Arf Z h0 x0 .byte 16 (fun j => .int (f j))) :
    own_Met l Z (⟨"com/example/vestwright/vestwright/csv/ExternalSort", "varLongAt", "([BI)J"⟩ : MethodName) prog_18_method_18_code 6 (some .long) { frames := 0, cells := 0, slots := 0, locals := 0 } #[(.ref x0), (.int x1)] h0 (fun v h L => own_Pure (.long (own_acc (fun t => f (a + t)) (kk + 1))) h0 v h L) := by
  refine own_met pn_3 ?_
  intro p e s m below meth c T0 X0 hx hby hml hown hZ e0 hret hlk hnm
  rw [ef_3 m x0 x1]
  have N0 := Fr.nil n0
  show own_Fin _ _ _ _ _ _ _ (T0.setTop (mkF m 0 #[.val (.ref x0), .val (.int x1), .unset, .unset, .unset, .unset] []))
  refine own_of (fun _ kk => XS.lconst X0.here hx rfl (hb hby d3_0) kk) ?_
  show own_Fin _ _ _ _ _ _ _ (T0.setTop (mkF m 1 #[.val (.ref x0), .val (.int x1), .unset, .unset, .unset, .unset] [(.long (0 : Int64))]))
  refine own_of (fun _ kk => XS.lstoreN X0.here hx rfl (hb hby d3_1) rfl (l' := #[.val (.ref x0), .val (.int x1), .val (.long (0 : Int64)), .second, .unset, .unset]) rfl kk) ?_
  show own_Fin _ _ _ _ _ _ _ (T0.setTop (mkF m 2 #[.val (.ref x0), .val (.int x1), .val (.long (0 : Int64)), .second, .unset, .unset] []))
  refine own_of (fun _ kk => XS.iconst X0.here hx rfl (hb hby d3_2) kk) ?_
  show own_Fin _ _ _ _ _ _ _ (T0.setTop (mkF m 3 #[.val (.ref x0), .val (.int x1), .val (.long (0 : Int64)), .second, .unset, .unset] [(.int (0 : Int32))]))
  refine own_of (fun _ kk => XS.istore X0.here hx rfl (hb hby d3_3) rfl (l' := #[.val (.ref x0), .val (.int x1), .val (.long (0 : Int64)), .second, .val (.int (0 : Int32)), .unset]) rfl kk) ?_
  show own_Fin _ _ _ _ _ _ _ (T0.setTop (mkF m 5 #[.val (.ref x0), .val (.int x1), .val (.long (0 : Int64)), .second, .val (.int (0 : Int32)), .unset] []))
  refine own_of (fun _ kk => XS.aloadN X0.here hx rfl (hb hby d3_5) rfl rfl kk) ?_
  show own_Fin _ _ _ _ _ _ _ (T0.setTop (mkF m 6 #[.val (.ref x0), .val (.int x1), .val (.long (0 : Int64)), .second, .val (.int (0 : Int32)), .unset] [(.ref x0)]))
  refine own_of (fun _ kk => XS.iloadN X0.here hx rfl (hb hby d3_6) rfl kk) ?_
  show own_Fin _ _ _ _ _ _ _ (T0.setTop (mkF m 7 #[.val (.ref x0), .val (.int x1), .val (.long (0 : Int64)), .second, .val (.int (0 : Int32)), .unset] [(.int x1), (.ref x0)]))
  refine own_of (fun _ kk => XS.iinc X0.here hx rfl (hb hby d3_7) rfl (l' := #[.val (.ref x0), .val (.int (x1 + (1 : Int32))), .val (.long (0 : Int64)), .second, .val (.int (0 : Int32)), .unset]) rfl kk) ?_
  show own_Fin _ _ _ _ _ _ _ (T0.setTop (mkF m 10 #[.val (.ref x0), .val (.int (x1 + (1 : Int32))), .val (.long (0 : Int64)), .second, .val (.int (0 : Int32)), .unset] [(.int x1), (.ref x0)]))
  refine own_baload X0 hx hZ e0 A (i := (a + 0)) (by simpa using ha) (by omega) (v := (.int (f (a + 0)))) rfl (hb hby d3_10) ?_
  show own_Fin _ _ _ _ _ _ _ (T0.setTop (mkF m 11 #[.val (.ref x0), .val (.int (x1 + (1 : Int32))), .val (.long (0 : Int64)), .second, .val (.int (0 : Int32)), .unset] [(.int (f (a + 0)))]))
  refine own_of (fun _ kk => XS.istore X0.here hx rfl (hb hby d3_11) rfl (l' := #[.val (.ref x0), .val (.int (x1 + (1 : Int32))), .val (.long (0 : Int64)), .second, .val (.int (0 : Int32)), .val (.int (f (a + 0)))]) rfl kk) ?_
  show own_Fin _ _ _ _ _ _ _ (T0.setTop (mkF m 13 #[.val (.ref x0), .val (.int (x1 + (1 : Int32))), .val (.long (0 : Int64)), .second, .val (.int (0 : Int32)), .val (.int (f (a + 0)))] []))
  refine own_of (fun _ kk => XS.lloadN X0.here hx rfl (hb hby d3_13) rfl kk) ?_
  show own_Fin _ _ _ _ _ _ _ (T0.setTop (mkF m 14 #[.val (.ref x0), .val (.int (x1 + (1 : Int32))), .val (.long (0 : Int64)), .second, .val (.int (0 : Int32)), .val (.int (f (a + 0)))] [(.long (0 : Int64))]))
  refine own_of (fun _ kk => XS.iload X0.here hx rfl (hb hby d3_14) rfl kk) ?_
  show own_Fin _ _ _ _ _ _ _ (T0.setTop (mkF m 16 #[.val (.ref x0), .val (.int (x1 + (1 : Int32))), .val (.long (0 : Int64)), .second, .val (.int (0 : Int32)), .val (.int (f (a + 0)))] [(.int (f (a + 0))), (.long (0 : Int64))]))
  refine own_of (fun _ kk => XS.bipush X0.here hx rfl (hb hby d3_16) kk) ?_
  show own_Fin _ _ _ _ _ _ _ (T0.setTop (mkF m 18 #[.val (.ref x0), .val (.int (x1 + (1 : Int32))), .val (.long (0 : Int64)), .second, .val (.int (0 : Int32)), .val (.int (f (a + 0)))] [(.int (127 : Int32)), (.int (f (a + 0))), (.long (0 : Int64))]))
  refine own_of (fun _ kk => XS.iand X0.here hx rfl (hb hby d3_18) rfl kk) ?_
  show own_Fin _ _ _ _ _ _ _ (T0.setTop (mkF m 19 #[.val (.ref x0), .val (.int (x1 + (1 : Int32))), .val (.long (0 : Int64)), .second, .val (.int (0 : Int32)), .val (.int (f (a + 0)))] [(.int ((f (a + 0)) &&& (127 : Int32))), (.long (0 : Int64))]))
  refine own_of (fun _ kk => XS.i2l X0.here hx rfl (hb hby d3_19) rfl kk) ?_
  show own_Fin _ _ _ _ _ _ _ (T0.setTop (mkF m 20 #[.val (.ref x0), .val (.int (x1 + (1 : Int32))), .val (.long (0 : Int64)), .second, .val (.int (0 : Int32)), .val (.int (f (a + 0)))] [(.long ((f (a + 0)) &&& (127 : Int32)).toInt64), (.long (0 : Int64))]))
  refine own_of (fun _ kk => XS.iload X0.here hx rfl (hb hby d3_20) rfl kk) ?_
  show own_Fin _ _ _ _ _ _ _ (T0.setTop (mkF m 22 #[.val (.ref x0), .val (.int (x1 + (1 : Int32))), .val (.long (0 : Int64)), .second, .val (.int (0 : Int32)), .val (.int (f (a + 0)))] [(.int (0 : Int32)), (.long ((f (a + 0)) &&& (127 : Int32)).toInt64), (.long (0 : Int64))]))
  refine own_of (fun _ kk => XS.lshl X0.here hx rfl (hb hby d3_22) rfl kk) ?_
  show own_Fin _ _ _ _ _ _ _ (T0.setTop (mkF m 23 #[.val (.ref x0), .val (.int (x1 + (1 : Int32))), .val (.long (0 : Int64)), .second, .val (.int (0 : Int32)), .val (.int (f (a + 0)))] [(.long (own_lshl ((f (a + 0)) &&& (127 : Int32)).toInt64 (0 : Int32))), (.long (0 : Int64))]))
  refine own_of (fun _ kk => XS.lor X0.here hx rfl (hb hby d3_23) rfl kk) ?_
  show own_Fin _ _ _ _ _ _ _ (T0.setTop (mkF m 24 #[.val (.ref x0), .val (.int (x1 + (1 : Int32))), .val (.long (0 : Int64)), .second, .val (.int (0 : Int32)), .val (.int (f (a + 0)))] [(.long ((0 : Int64) ||| (own_lshl ((f (a + 0)) &&& (127 : Int32)).toInt64 (0 : Int32))))]))
  refine own_of (fun _ kk => XS.lstoreN X0.here hx rfl (hb hby d3_24) rfl (l' := #[.val (.ref x0), .val (.int (x1 + (1 : Int32))), .val (.long ((0 : Int64) ||| (own_lshl ((f (a + 0)) &&& (127 : Int32)).toInt64 (0 : Int32)))), .second, .val (.int (0 : Int32)), .val (.int (f (a + 0)))]) rfl kk) ?_
  show own_Fin _ _ _ _ _ _ _ (T0.setTop (mkF m 25 #[.val (.ref x0), .val (.int (x1 + (1 : Int32))), .val (.long ((0 : Int64) ||| (own_lshl ((f (a + 0)) &&& (127 : Int32)).toInt64 (0 : Int32)))), .second, .val (.int (0 : Int32)), .val (.int (f (a + 0)))] []))
  refine own_of (fun _ kk => XS.iload X0.here hx rfl (hb hby d3_25) rfl kk) ?_
  show own_Fin _ _ _ _ _ _ _ (T0.setTop (mkF m 27 #[.val (.ref x0), .val (.int (x1 + (1 : Int32))), .val (.long ((0 : Int64) ||| (own_lshl ((f (a + 0)) &&& (127 : Int32)).toInt64 (0 : Int32)))), .second, .val (.int (0 : Int32)), .val (.int (f (a + 0)))] [(.int (f (a + 0)))]))
  refine own_of (fun _ kk => XS.sipush X0.here hx rfl (hb hby d3_27) kk) ?_
  show own_Fin _ _ _ _ _ _ _ (T0.setTop (mkF m 30 #[.val (.ref x0), .val (.int (x1 + (1 : Int32))), .val (.long ((0 : Int64) ||| (own_lshl ((f (a + 0)) &&& (127 : Int32)).toInt64 (0 : Int32)))), .second, .val (.int (0 : Int32)), .val (.int (f (a + 0)))] [(.int (128 : Int32)), (.int (f (a + 0)))]))
  refine own_of (fun _ kk => XS.iand X0.here hx rfl (hb hby d3_30) rfl kk) ?_
  show own_Fin _ _ _ _ _ _ _ (T0.setTop (mkF m 31 #[.val (.ref x0), .val (.int (x1 + (1 : Int32))), .val (.long ((0 : Int64) ||| (own_lshl ((f (a + 0)) &&& (127 : Int32)).toInt64 (0 : Int32)))), .second, .val (.int (0 : Int32)), .val (.int (f (a + 0)))] [(.int ((f (a + 0)) &&& (128 : Int32)))]))
  by_cases c31 : ((f (a + 0)) &&& (128 : Int32)) = (0 : Int32)
  · refine own_of (fun _ kk => XS.ifNo X0.here hx rfl (hb hby d3_31) rfl ((if0 _ _).trans (teq c31).2) kk) ?_
    show own_Fin _ _ _ _ _ _ _ (T0.setTop (mkF m 34 #[.val (.ref x0), .val (.int (x1 + (1 : Int32))), .val (.long ((0 : Int64) ||| (own_lshl ((f (a + 0)) &&& (127 : Int32)).toInt64 (0 : Int32)))), .second, .val (.int (0 : Int32)), .val (.int (f (a + 0)))] []))
    refine own_of (fun _ kk => XS.lloadN X0.here hx rfl (hb hby d3_34) rfl kk) ?_
    show own_Fin _ _ _ _ _ _ _ (T0.setTop (mkF m 35 #[.val (.ref x0), .val (.int (x1 + (1 : Int32))), .val (.long ((0 : Int64) ||| (own_lshl ((f (a + 0)) &&& (127 : Int32)).toInt64 (0 : Int32)))), .second, .val (.int (0 : Int32)), .val (.int (f (a + 0)))] [(.long ((0 : Int64) ||| (own_lshl ((f (a + 0)) &&& (127 : Int32)).toInt64 (0 : Int32))))]))
    exact own_retJ X0 hx hlk e0 hret (hb hby d3_35) (by decide) (by decide) ⟨by rw [show kk = 0 by rcases Nat.eq_zero_or_pos kk with q | q; exact q; exact absurd c31 (hco 0 q), own_sh _ (q := (0 : Int32)) (i := 0) (by decide) (by decide)]; rfl, rfl, rfl⟩
  · refine own_of (fun _ kk => XS.ifYes X0.here hx rfl (pc0 := 31) (pc' := 36) rfl (hb hby d3_31) rfl ((if0 _ _).trans (feq c31).2) (by decide) (by decide) kk) ?_
    show own_Fin _ _ _ _ _ _ _ (T0.setTop (mkF m 36 #[.val (.ref x0), .val (.int (x1 + (1 : Int32))), .val (.long ((0 : Int64) ||| (own_lshl ((f (a + 0)) &&& (127 : Int32)).toInt64 (0 : Int32)))), .second, .val (.int (0 : Int32)), .val (.int (f (a + 0)))] []))
    refine own_of (fun _ kk => XS.iinc X0.here hx rfl (hb hby d3_36) rfl (l' := #[.val (.ref x0), .val (.int (x1 + (1 : Int32))), .val (.long ((0 : Int64) ||| (own_lshl ((f (a + 0)) &&& (127 : Int32)).toInt64 (0 : Int32)))), .second, .val (.int (7 : Int32)), .val (.int (f (a + 0)))]) rfl kk) ?_
    show own_Fin _ _ _ _ _ _ _ (T0.setTop (mkF m 39 #[.val (.ref x0), .val (.int (x1 + (1 : Int32))), .val (.long ((0 : Int64) ||| (own_lshl ((f (a + 0)) &&& (127 : Int32)).toInt64 (0 : Int32)))), .second, .val (.int (7 : Int32)), .val (.int (f (a + 0)))] []))
    refine own_of (fun _ kk => XS.goto X0.here hx rfl (pc0 := 39) (pc' := 5) rfl (hb hby d3_39) (by decide) (by decide) kk) ?_
    show own_Fin _ _ _ _ _ _ _ (T0.setTop (mkF m 5 #[.val (.ref x0), .val (.int (x1 + (1 : Int32))), .val (.long ((0 : Int64) ||| (own_lshl ((f (a + 0)) &&& (127 : Int32)).toInt64 (0 : Int32)))), .second, .val (.int (7 : Int32)), .val (.int (f (a + 0)))] []))
    have hpos : 0 < kk := by rcases Nat.eq_zero_or_pos kk with q | q; (exfalso; subst q; exact c31 hst); exact q
    rw [own_sh _ (q := (0 : Int32)) (i := 0) (by decide) (by decide)]
    exact own_loop l Z a0 hw x0 x1 f a kk h0 n0 hx hby hml hown hZ hret hlk hst hco hk8 hak (kk - 1) 1 (x1 + 1) 7 (f (a + 0)) T0 _ h0 X0 N0 Z0 e0 (by omega) (own_p1 (i := 0) ha (by omega)) (by decide) A rfl rfl
def own_Good (f : Nat → Int32) (a kk i : Nat) : Prop := ∀ t, t < i → (t < kk → ¬ (f (a + t) &&& (128 : Int32)) = (0 : Int32)) ∧ (t = kk → (f (a + t) &&& (128 : Int32)) = (0 : Int32))
theorem own_good {f f' : Nat → Int32} {a kk i : Nat} {q K : Int32} (H : own_Good f a kk i) (hq : q.toInt = (i : Int)) (hK : K.toInt = (kk : Int)) (h1 : ∀ j, ¬ j = a + i → f' j = f j) (h2 : q < K → ¬ (f' (a + i) &&& (128 : Int32)) = (0 : Int32)) (h3 : q = K → (f' (a + i) &&& (128 : Int32)) = (0 : Int32)) : own_Good f' a kk (i + 1) := by
  intro t ht
  by_cases e : t = i
  · subst e
    exact ⟨fun h => h2 (by rw [Int32.lt_iff_toInt_lt]; omega), fun h => h3 (Int32.toInt_inj.mp (by omega))⟩
  · rw [h1 (a + t) (by omega)]; exact H t (by omega)
def own_S (m : Nat → Nat) : Nat → Nat
  | 0 => 0
  | n + 1 => own_S m n + m n * 2 ^ (7 * n)
theorem own_S_lt (m : Nat → Nat) (hm : ∀ i, m i < 128) : ∀ n, own_S m n < 2 ^ (7 * n)
  | 0 => by simp [own_S]
  | n + 1 => by
    have h := own_S_lt m hm n
    have h2 := hm n
    have e : 2 ^ (7 * (n + 1)) = 128 * 2 ^ (7 * n) := by rw [show 7 * (n + 1) = 7 + 7 * n by omega, Nat.pow_add]
    show own_S m n + m n * 2 ^ (7 * n) < _
    rw [e]
    have h3 : m n * 2 ^ (7 * n) ≤ 127 * 2 ^ (7 * n) := Nat.mul_le_mul_right _ (by omega)
    omega
theorem own_slN (x : Int64) (n : Nat) (hx : x.toBitVec.toNat < 128) (hn : n ≤ 8) : (own_sl x (7 * n)).toBitVec.toNat = x.toBitVec.toNat * 2 ^ (7 * n) := by
  show (x.toBitVec <<< (7 * n)).toNat = _
  rw [BitVec.toNat_shiftLeft, Nat.shiftLeft_eq]
  apply Nat.mod_eq_of_lt
  have : 2 ^ (7 * n) ≤ 2 ^ 56 := Nat.pow_le_pow_right (by decide) (by omega)
  have h2 : x.toBitVec.toNat * 2 ^ (7 * n) ≤ 127 * 2 ^ 56 := Nat.mul_le_mul (by omega) this
  omega
def own_mm (r : Int32) : Nat := (r &&& (127 : Int32)).toInt64.toBitVec.toNat
theorem own_mlt (r : Int32) : own_mm r < 128 := by
  have h := c_mask r 127 7 (by decide) (by decide)
  have h2 := c_i2l (r &&& 127)
  unfold own_mm
  generalize (r &&& (127 : Int32)).toInt64 = y at *
  have h3 : y.toBitVec.toInt = y.toInt := rfl
  have := y.toBitVec.isLt
  rw [BitVec.toInt_eq_toNat_cond] at h3
  split at h3 <;> omega
theorem own_accN (g : Nat → Int32) : ∀ n, n ≤ 9 → (own_acc g n).toBitVec.toNat = own_S (fun t => own_mm (g t)) n
  | 0, _ => rfl
  | n + 1, hn => by
    have h := own_accN g n (by omega)
    have hl := own_S_lt (fun t => own_mm (g t)) (fun t => own_mlt (g t)) n
    show ((own_acc g n).toBitVec ||| (own_sl (g n &&& (127 : Int32)).toInt64 (7 * n)).toBitVec).toNat = own_S _ n + own_mm (g n) * 2 ^ (7 * n)
    rw [BitVec.toNat_or, h, own_slN _ n (own_mlt (g n)) (by omega), Nat.or_comm, ← Nat.shiftLeft_eq, ← Nat.shiftLeft_add_eq_or_of_lt hl, Nat.add_comm, Nat.shiftLeft_eq]
    rfl
theorem own_tmN (r q K : Int32) (i kk : Nat) (hq : q.toInt = (i : Int)) (hi : i ≤ 8) (hK : K.toInt = (kk : Int)) : (own_tm r q K).toBitVec.toNat = if kk < i then 0 else own_mm r * 2 ^ (7 * i) := by
  have e : K < q ↔ kk < i := by rw [Int32.lt_iff_toInt_lt]; omega
  unfold own_tm
  by_cases h : kk < i
  · rw [if_pos (e.mpr h), if_pos h]; rfl
  · rw [if_neg (mt e.mp h), if_neg h]
    have k7 : (7 : Int32).toInt = 7 := by decide
    have s7 := c_imul 7 q
    have s8 := rng32 (7 * q)
    have t2 : ((7 : Int32) * q).toInt = ((7 * i : Nat) : Int) := by rw [hq, k7] at s7; omega
    rw [own_sh _ t2 hi, own_slN _ i (own_mlt r) hi]; rfl
theorem own_nine (kk : Nat) (h : kk ≤ 8) : kk = 0 ∨ kk = 1 ∨ kk = 2 ∨ kk = 3 ∨ kk = 4 ∨ kk = 5 ∨ kk = 6 ∨ kk = 7 ∨ kk = 8 := by omega
set_option maxRecDepth 65536 in
set_option maxHeartbeats 40000000 in
theorem own_finish (f : Nat → Int32) (a : Nat) (K : Int32) (kk : Nat) (hK : K.toInt = (kk : Int)) (hk : kk ≤ 8) : own_acc (fun t => f (a + t)) (kk + 1) = (((((((((own_tm (f (a + 0)) (0 : Int32) K) + (own_tm (f (a + 1)) (1 : Int32) K)) + (own_tm (f (a + 2)) (2 : Int32) K)) + (own_tm (f (a + 3)) (3 : Int32) K)) + (own_tm (f (a + 4)) (4 : Int32) K)) + (own_tm (f (a + 5)) (5 : Int32) K)) + (own_tm (f (a + 6)) (6 : Int32) K)) + (own_tm (f (a + 7)) (7 : Int32) K)) + (own_tm (f (a + 8)) (8 : Int32) K)) := by
  apply own_inj
  rw [own_accN _ _ (by omega)]
  have t0 := own_tmN (f (a + 0)) (0 : Int32) K 0 kk (by decide) (by decide) hK
  have t1 := own_tmN (f (a + 1)) (1 : Int32) K 1 kk (by decide) (by decide) hK
  have t2 := own_tmN (f (a + 2)) (2 : Int32) K 2 kk (by decide) (by decide) hK
  have t3 := own_tmN (f (a + 3)) (3 : Int32) K 3 kk (by decide) (by decide) hK
  have t4 := own_tmN (f (a + 4)) (4 : Int32) K 4 kk (by decide) (by decide) hK
  have t5 := own_tmN (f (a + 5)) (5 : Int32) K 5 kk (by decide) (by decide) hK
  have t6 := own_tmN (f (a + 6)) (6 : Int32) K 6 kk (by decide) (by decide) hK
  have t7 := own_tmN (f (a + 7)) (7 : Int32) K 7 kk (by decide) (by decide) hK
  have t8 := own_tmN (f (a + 8)) (8 : Int32) K 8 kk (by decide) (by decide) hK
  have m0 := own_mlt (f (a + 0))
  have m1 := own_mlt (f (a + 1))
  have m2 := own_mlt (f (a + 2))
  have m3 := own_mlt (f (a + 3))
  have m4 := own_mlt (f (a + 4))
  have m5 := own_mlt (f (a + 5))
  have m6 := own_mlt (f (a + 6))
  have m7 := own_mlt (f (a + 7))
  have m8 := own_mlt (f (a + 8))
  have ad : ∀ x y : Int64, (x + y).toBitVec.toNat = (x.toBitVec.toNat + y.toBitVec.toNat) % 2 ^ 64 := fun x y => by show (x.toBitVec + y.toBitVec).toNat = _; rw [BitVec.toNat_add]
  simp only [ad, t0, t1, t2, t3, t4, t5, t6, t7, t8]
  generalize hg0 : own_mm (f (a + 0)) = g0 at *
  generalize hg1 : own_mm (f (a + 1)) = g1 at *
  generalize hg2 : own_mm (f (a + 2)) = g2 at *
  generalize hg3 : own_mm (f (a + 3)) = g3 at *
  generalize hg4 : own_mm (f (a + 4)) = g4 at *
  generalize hg5 : own_mm (f (a + 5)) = g5 at *
  generalize hg6 : own_mm (f (a + 6)) = g6 at *
  generalize hg7 : own_mm (f (a + 7)) = g7 at *
  generalize hg8 : own_mm (f (a + 8)) = g8 at *
  clear t0 t1 t2 t3 t4 t5 t6 t7 t8 ad
  rcases own_nine kk hk with rfl | rfl | rfl | rfl | rfl | rfl | rfl | rfl | rfl
  all_goals (simp only [own_S, hg0, hg1, hg2, hg3, hg4, hg5, hg6, hg7, hg8, Nat.lt_irrefl, Nat.reduceLT, Nat.reduceMul, Nat.reducePow, ite_true, ite_false, reduceIte, Nat.mul_zero, Nat.pow_zero, Nat.mul_one, Nat.not_lt_zero]; omega)
theorem own_kr (x : Int32) : ((x &&& (2147483647 : Int32)) % (9 : Int32)).toInt = ((((x &&& (2147483647 : Int32)) % (9 : Int32)).toInt.toNat : Nat) : Int) ∧ ((x &&& (2147483647 : Int32)) % (9 : Int32)).toInt.toNat ≤ 8 := by
  have h := c_mask x 2147483647 31 (by decide) (by decide)
  have h2 := (c_irem (x &&& 2147483647) 9 9 (by decide)).1 (by rw [h]; omega)
  omega
theorem own_at (x : Int32) : (x &&& (3 : Int32)).toInt = (((x &&& (3 : Int32)).toInt.toNat : Nat) : Int) ∧ (x &&& (3 : Int32)).toInt.toNat ≤ 3 := by
  have h := c_mask x 3 2 (by decide) (by decide)
  omega
set_option maxRecDepth 65536 in
set_option maxHeartbeats 40000000 in
theorem own_law (l : Launch) (Z : State) (a0 : Array Value) (hw : ∀ d ∈ tables_1, d.before a0 Z = true) (x0 : Int64) (x1 : Int64) (x2 : Int32) (x3 : Int32) (h0 : Heap) (n0 : Nat) (Z0 : n0 ≤ h0.size) :
    own_Met l Z x code maxLocals ret room_1 #[(.long x0), (.long x1), (.int x2), (.int x3)] h0 (fun v h L => v = some (.int 1) ∧ Fr n0 L) := by
  refine own_met pn_0 ?_
  intro p e s m below meth c T0 X0 hx hby hml hown hZ e0 hret hlk hnm
  replace hown : s.vm.findClass "com/example/vestwright/vestwright/csv/ExternalSortVarLongAtPinLaw" = some m.cls := hown
  replace hml : c.maxLocals = 11 := hml
  rw [ef_0 m x0 x1 x2 x3]
  have N0 := Fr.nil n0
  show own_Fin _ _ _ _ _ _ _ (T0.setTop (mkF m 0 #[.val (.long x0), .second, .val (.long x1), .second, .val (.int x2), .val (.int x3), .unset, .unset, .unset, .unset, .unset] []))
  refine own_of (fun _ kk => XS.iload X0.here hx rfl (hb hby at_0) rfl kk) ?_
  show own_Fin _ _ _ _ _ _ _ (T0.setTop (mkF m 2 #[.val (.long x0), .second, .val (.long x1), .second, .val (.int x2), .val (.int x3), .unset, .unset, .unset, .unset, .unset] [(.int x2)]))
  refine own_of (fun _ kk => X0.ldcInt hx hown (mvT hZ (hw _ (List.mem_of_getElem? (i := 0) rfl))) (g := (mkF m 2 #[.val (.long x0), .second, .val (.long x1), .second, .val (.int x2), .val (.int x3), .unset, .unset, .unset, .unset, .unset] [(.int x2)])) rfl (hb hby at_2) _ kk) ?_
  show own_Fin _ _ _ _ _ _ _ (T0.setTop (mkF m 4 #[.val (.long x0), .second, .val (.long x1), .second, .val (.int x2), .val (.int x3), .unset, .unset, .unset, .unset, .unset] [(.int (2147483647 : Int32)), (.int x2)]))
  refine own_of (fun _ kk => XS.iand X0.here hx rfl (hb hby at_4) rfl kk) ?_
  show own_Fin _ _ _ _ _ _ _ (T0.setTop (mkF m 5 #[.val (.long x0), .second, .val (.long x1), .second, .val (.int x2), .val (.int x3), .unset, .unset, .unset, .unset, .unset] [(.int (x2 &&& (2147483647 : Int32)))]))
  refine own_of (fun _ kk => XS.bipush X0.here hx rfl (hb hby at_5) kk) ?_
  show own_Fin _ _ _ _ _ _ _ (T0.setTop (mkF m 7 #[.val (.long x0), .second, .val (.long x1), .second, .val (.int x2), .val (.int x3), .unset, .unset, .unset, .unset, .unset] [(.int (9 : Int32)), (.int (x2 &&& (2147483647 : Int32)))]))
  refine own_of (fun _ kk => iremM X0 hx rfl (hb hby at_7) rfl (by decide) kk) ?_
  show own_Fin _ _ _ _ _ _ _ (T0.setTop (mkF m 8 #[.val (.long x0), .second, .val (.long x1), .second, .val (.int x2), .val (.int x3), .unset, .unset, .unset, .unset, .unset] [(.int ((x2 &&& (2147483647 : Int32)) % (9 : Int32)))]))
  refine own_of (fun _ kk => XS.istore X0.here hx rfl (hb hby at_8) rfl (l' := #[.val (.long x0), .second, .val (.long x1), .second, .val (.int x2), .val (.int x3), .val (.int ((x2 &&& (2147483647 : Int32)) % (9 : Int32))), .unset, .unset, .unset, .unset]) rfl kk) ?_
  show own_Fin _ _ _ _ _ _ _ (T0.setTop (mkF m 10 #[.val (.long x0), .second, .val (.long x1), .second, .val (.int x2), .val (.int x3), .val (.int ((x2 &&& (2147483647 : Int32)) % (9 : Int32))), .unset, .unset, .unset, .unset] []))
  refine own_of (fun _ kk => XS.iload X0.here hx rfl (hb hby at_10) rfl kk) ?_
  show own_Fin _ _ _ _ _ _ _ (T0.setTop (mkF m 12 #[.val (.long x0), .second, .val (.long x1), .second, .val (.int x2), .val (.int x3), .val (.int ((x2 &&& (2147483647 : Int32)) % (9 : Int32))), .unset, .unset, .unset, .unset] [(.int x3)]))
  refine own_of (fun _ kk => XS.iconst X0.here hx rfl (hb hby at_12) kk) ?_
  show own_Fin _ _ _ _ _ _ _ (T0.setTop (mkF m 13 #[.val (.long x0), .second, .val (.long x1), .second, .val (.int x2), .val (.int x3), .val (.int ((x2 &&& (2147483647 : Int32)) % (9 : Int32))), .unset, .unset, .unset, .unset] [(.int (3 : Int32)), (.int x3)]))
  refine own_of (fun _ kk => XS.iand X0.here hx rfl (hb hby at_13) rfl kk) ?_
  show own_Fin _ _ _ _ _ _ _ (T0.setTop (mkF m 14 #[.val (.long x0), .second, .val (.long x1), .second, .val (.int x2), .val (.int x3), .val (.int ((x2 &&& (2147483647 : Int32)) % (9 : Int32))), .unset, .unset, .unset, .unset] [(.int (x3 &&& (3 : Int32)))]))
  refine own_of (fun _ kk => XS.istore X0.here hx rfl (hb hby at_14) rfl (l' := #[.val (.long x0), .second, .val (.long x1), .second, .val (.int x2), .val (.int x3), .val (.int ((x2 &&& (2147483647 : Int32)) % (9 : Int32))), .val (.int (x3 &&& (3 : Int32))), .unset, .unset, .unset]) rfl kk) ?_
  show own_Fin _ _ _ _ _ _ _ (T0.setTop (mkF m 16 #[.val (.long x0), .second, .val (.long x1), .second, .val (.int x2), .val (.int x3), .val (.int ((x2 &&& (2147483647 : Int32)) % (9 : Int32))), .val (.int (x3 &&& (3 : Int32))), .unset, .unset, .unset] []))
  refine own_of (fun _ kk => XS.bipush X0.here hx rfl (hb hby at_16) kk) ?_
  show own_Fin _ _ _ _ _ _ _ (T0.setTop (mkF m 18 #[.val (.long x0), .second, .val (.long x1), .second, .val (.int x2), .val (.int x3), .val (.int ((x2 &&& (2147483647 : Int32)) % (9 : Int32))), .val (.int (x3 &&& (3 : Int32))), .unset, .unset, .unset] [(.int (16 : Int32))]))
  refine own_newP X0 hx hZ (hw _ (List.mem_of_getElem? (i := 1) rfl)) e0 (hb hby at_18) (n := 16) (by decide) (cap := 16) (Nat.le_refl _) (by decide) (by decide) (by decide) ?_
  intro T1 h1 b1 X1 e1 E1 g1 A1
  have Z1 : n0 ≤ h1.size := Nat.le_trans Z0 E1.1
  have ge_b1 : n0 ≤ b1 := by rw [g1]; exact Z0
  replace A1 : own_Arf Z h1 b1 .byte 16 (fun _ => (.int (0 : Int32))) := A1
  show own_Fin _ _ _ _ _ _ _ (T1.setTop (mkF m 20 #[.val (.long x0), .second, .val (.long x1), .second, .val (.int x2), .val (.int x3), .val (.int ((x2 &&& (2147483647 : Int32)) % (9 : Int32))), .val (.int (x3 &&& (3 : Int32))), .unset, .unset, .unset] [(.ref b1)]))
  refine own_of (fun _ kk => XS.astore X1.here hx rfl (hb hby at_20) rfl rfl (l' := #[.val (.long x0), .second, .val (.long x1), .second, .val (.int x2), .val (.int x3), .val (.int ((x2 &&& (2147483647 : Int32)) % (9 : Int32))), .val (.int (x3 &&& (3 : Int32))), .val (.ref b1), .unset, .unset]) rfl kk) ?_
  show own_Fin _ _ _ _ _ _ _ (T1.setTop (mkF m 22 #[.val (.long x0), .second, .val (.long x1), .second, .val (.int x2), .val (.int x3), .val (.int ((x2 &&& (2147483647 : Int32)) % (9 : Int32))), .val (.int (x3 &&& (3 : Int32))), .val (.ref b1), .unset, .unset] []))
  refine own_of (fun _ kk => XS.aload X1.here hx rfl (hb hby at_22) rfl rfl kk) ?_
  show own_Fin _ _ _ _ _ _ _ (T1.setTop (mkF m 24 #[.val (.long x0), .second, .val (.long x1), .second, .val (.int x2), .val (.int x3), .val (.int ((x2 &&& (2147483647 : Int32)) % (9 : Int32))), .val (.int (x3 &&& (3 : Int32))), .val (.ref b1), .unset, .unset] [(.ref b1)]))
  refine own_of (fun _ kk => XS.iconst X1.here hx rfl (hb hby at_24) kk) ?_
  show own_Fin _ _ _ _ _ _ _ (T1.setTop (mkF m 25 #[.val (.long x0), .second, .val (.long x1), .second, .val (.int x2), .val (.int x3), .val (.int ((x2 &&& (2147483647 : Int32)) % (9 : Int32))), .val (.int (x3 &&& (3 : Int32))), .val (.ref b1), .unset, .unset] [(.int (0 : Int32)), (.ref b1)]))
  refine own_of (fun _ kk => XS.lloadN X1.here hx rfl (hb hby at_25) rfl kk) ?_
  show own_Fin _ _ _ _ _ _ _ (T1.setTop (mkF m 26 #[.val (.long x0), .second, .val (.long x1), .second, .val (.int x2), .val (.int x3), .val (.int ((x2 &&& (2147483647 : Int32)) % (9 : Int32))), .val (.int (x3 &&& (3 : Int32))), .val (.ref b1), .unset, .unset] [(.long x0), (.int (0 : Int32)), (.ref b1)]))
  refine own_of (fun _ kk => XS.l2i X1.here hx rfl (hb hby at_26) rfl kk) ?_
  show own_Fin _ _ _ _ _ _ _ (T1.setTop (mkF m 27 #[.val (.long x0), .second, .val (.long x1), .second, .val (.int x2), .val (.int x3), .val (.int ((x2 &&& (2147483647 : Int32)) % (9 : Int32))), .val (.int (x3 &&& (3 : Int32))), .val (.ref b1), .unset, .unset] [(.int x0.toInt32), (.int (0 : Int32)), (.ref b1)]))
  refine own_of (fun _ kk => XS.i2b X1.here hx rfl (hb hby at_27) rfl kk) ?_
  show own_Fin _ _ _ _ _ _ _ (T1.setTop (mkF m 28 #[.val (.long x0), .second, .val (.long x1), .second, .val (.int x2), .val (.int x3), .val (.int ((x2 &&& (2147483647 : Int32)) % (9 : Int32))), .val (.int (x3 &&& (3 : Int32))), .val (.ref b1), .unset, .unset] [(.int (own_i2b x0.toInt32)), (.int (0 : Int32)), (.ref b1)]))
  refine own_bastore X1 hx hZ e1 A1 N0 ge_b1 (i := 0) (by decide) (by decide) (hb hby at_28) ?_
  intro T2 h2 l2 X2 N2 e2 W2 A2
  replace A2 : own_Arf Z h2 b1 .byte 16 (fun j => if j = 0 then (.int (own_i2b (own_i2b x0.toInt32))) else (fun _ => (.int (0 : Int32))) j) := A2
  have ZW2 : n0 ≤ h2.size := by rw [Wr.size W2]; exact Z1
  show own_Fin _ _ _ _ _ _ _ (T2.setTop (mkF m 29 #[.val (.long x0), .second, .val (.long x1), .second, .val (.int x2), .val (.int x3), .val (.int ((x2 &&& (2147483647 : Int32)) % (9 : Int32))), .val (.int (x3 &&& (3 : Int32))), .val (.ref b1), .unset, .unset] []))
  refine own_of (fun _ kk => XS.aload X2.here hx rfl (hb hby at_29) rfl rfl kk) ?_
  show own_Fin _ _ _ _ _ _ _ (T2.setTop (mkF m 31 #[.val (.long x0), .second, .val (.long x1), .second, .val (.int x2), .val (.int x3), .val (.int ((x2 &&& (2147483647 : Int32)) % (9 : Int32))), .val (.int (x3 &&& (3 : Int32))), .val (.ref b1), .unset, .unset] [(.ref b1)]))
  refine own_of (fun _ kk => XS.iconst X2.here hx rfl (hb hby at_31) kk) ?_
  show own_Fin _ _ _ _ _ _ _ (T2.setTop (mkF m 32 #[.val (.long x0), .second, .val (.long x1), .second, .val (.int x2), .val (.int x3), .val (.int ((x2 &&& (2147483647 : Int32)) % (9 : Int32))), .val (.int (x3 &&& (3 : Int32))), .val (.ref b1), .unset, .unset] [(.int (1 : Int32)), (.ref b1)]))
  refine own_of (fun _ kk => XS.lloadN X2.here hx rfl (hb hby at_32) rfl kk) ?_
  show own_Fin _ _ _ _ _ _ _ (T2.setTop (mkF m 33 #[.val (.long x0), .second, .val (.long x1), .second, .val (.int x2), .val (.int x3), .val (.int ((x2 &&& (2147483647 : Int32)) % (9 : Int32))), .val (.int (x3 &&& (3 : Int32))), .val (.ref b1), .unset, .unset] [(.long x0), (.int (1 : Int32)), (.ref b1)]))
  refine own_of (fun _ kk => XS.bipush X2.here hx rfl (hb hby at_33) kk) ?_
  show own_Fin _ _ _ _ _ _ _ (T2.setTop (mkF m 35 #[.val (.long x0), .second, .val (.long x1), .second, .val (.int x2), .val (.int x3), .val (.int ((x2 &&& (2147483647 : Int32)) % (9 : Int32))), .val (.int (x3 &&& (3 : Int32))), .val (.ref b1), .unset, .unset] [(.int (8 : Int32)), (.long x0), (.int (1 : Int32)), (.ref b1)]))
  refine own_of (fun _ kk => XS.lushr X2.here hx rfl (hb hby at_35) rfl kk) ?_
  show own_Fin _ _ _ _ _ _ _ (T2.setTop (mkF m 36 #[.val (.long x0), .second, .val (.long x1), .second, .val (.int x2), .val (.int x3), .val (.int ((x2 &&& (2147483647 : Int32)) % (9 : Int32))), .val (.int (x3 &&& (3 : Int32))), .val (.ref b1), .unset, .unset] [(.long (own_lushr x0 (8 : Int32))), (.int (1 : Int32)), (.ref b1)]))
  refine own_of (fun _ kk => XS.l2i X2.here hx rfl (hb hby at_36) rfl kk) ?_
  show own_Fin _ _ _ _ _ _ _ (T2.setTop (mkF m 37 #[.val (.long x0), .second, .val (.long x1), .second, .val (.int x2), .val (.int x3), .val (.int ((x2 &&& (2147483647 : Int32)) % (9 : Int32))), .val (.int (x3 &&& (3 : Int32))), .val (.ref b1), .unset, .unset] [(.int (own_lushr x0 (8 : Int32)).toInt32), (.int (1 : Int32)), (.ref b1)]))
  refine own_of (fun _ kk => XS.i2b X2.here hx rfl (hb hby at_37) rfl kk) ?_
  show own_Fin _ _ _ _ _ _ _ (T2.setTop (mkF m 38 #[.val (.long x0), .second, .val (.long x1), .second, .val (.int x2), .val (.int x3), .val (.int ((x2 &&& (2147483647 : Int32)) % (9 : Int32))), .val (.int (x3 &&& (3 : Int32))), .val (.ref b1), .unset, .unset] [(.int (own_i2b (own_lushr x0 (8 : Int32)).toInt32)), (.int (1 : Int32)), (.ref b1)]))
  refine own_bastore X2 hx hZ e2 A2 N2 ge_b1 (i := 1) (by decide) (by decide) (hb hby at_38) ?_
  intro T3 h3 l3 X3 N3 e3 W3 A3
  replace A3 : own_Arf Z h3 b1 .byte 16 (fun j => if j = 1 then (.int (own_i2b (own_i2b (own_lushr x0 (8 : Int32)).toInt32))) else (fun j => if j = 0 then (.int (own_i2b (own_i2b x0.toInt32))) else (fun _ => (.int (0 : Int32))) j) j) := A3
  have ZW3 : n0 ≤ h3.size := by rw [Wr.size W3]; exact ZW2
  show own_Fin _ _ _ _ _ _ _ (T3.setTop (mkF m 39 #[.val (.long x0), .second, .val (.long x1), .second, .val (.int x2), .val (.int x3), .val (.int ((x2 &&& (2147483647 : Int32)) % (9 : Int32))), .val (.int (x3 &&& (3 : Int32))), .val (.ref b1), .unset, .unset] []))
  refine own_of (fun _ kk => XS.aload X3.here hx rfl (hb hby at_39) rfl rfl kk) ?_
  show own_Fin _ _ _ _ _ _ _ (T3.setTop (mkF m 41 #[.val (.long x0), .second, .val (.long x1), .second, .val (.int x2), .val (.int x3), .val (.int ((x2 &&& (2147483647 : Int32)) % (9 : Int32))), .val (.int (x3 &&& (3 : Int32))), .val (.ref b1), .unset, .unset] [(.ref b1)]))
  refine own_of (fun _ kk => XS.iconst X3.here hx rfl (hb hby at_41) kk) ?_
  show own_Fin _ _ _ _ _ _ _ (T3.setTop (mkF m 42 #[.val (.long x0), .second, .val (.long x1), .second, .val (.int x2), .val (.int x3), .val (.int ((x2 &&& (2147483647 : Int32)) % (9 : Int32))), .val (.int (x3 &&& (3 : Int32))), .val (.ref b1), .unset, .unset] [(.int (2 : Int32)), (.ref b1)]))
  refine own_of (fun _ kk => XS.lloadN X3.here hx rfl (hb hby at_42) rfl kk) ?_
  show own_Fin _ _ _ _ _ _ _ (T3.setTop (mkF m 43 #[.val (.long x0), .second, .val (.long x1), .second, .val (.int x2), .val (.int x3), .val (.int ((x2 &&& (2147483647 : Int32)) % (9 : Int32))), .val (.int (x3 &&& (3 : Int32))), .val (.ref b1), .unset, .unset] [(.long x0), (.int (2 : Int32)), (.ref b1)]))
  refine own_of (fun _ kk => XS.bipush X3.here hx rfl (hb hby at_43) kk) ?_
  show own_Fin _ _ _ _ _ _ _ (T3.setTop (mkF m 45 #[.val (.long x0), .second, .val (.long x1), .second, .val (.int x2), .val (.int x3), .val (.int ((x2 &&& (2147483647 : Int32)) % (9 : Int32))), .val (.int (x3 &&& (3 : Int32))), .val (.ref b1), .unset, .unset] [(.int (16 : Int32)), (.long x0), (.int (2 : Int32)), (.ref b1)]))
  refine own_of (fun _ kk => XS.lushr X3.here hx rfl (hb hby at_45) rfl kk) ?_
  show own_Fin _ _ _ _ _ _ _ (T3.setTop (mkF m 46 #[.val (.long x0), .second, .val (.long x1), .second, .val (.int x2), .val (.int x3), .val (.int ((x2 &&& (2147483647 : Int32)) % (9 : Int32))), .val (.int (x3 &&& (3 : Int32))), .val (.ref b1), .unset, .unset] [(.long (own_lushr x0 (16 : Int32))), (.int (2 : Int32)), (.ref b1)]))
  refine own_of (fun _ kk => XS.l2i X3.here hx rfl (hb hby at_46) rfl kk) ?_
  show own_Fin _ _ _ _ _ _ _ (T3.setTop (mkF m 47 #[.val (.long x0), .second, .val (.long x1), .second, .val (.int x2), .val (.int x3), .val (.int ((x2 &&& (2147483647 : Int32)) % (9 : Int32))), .val (.int (x3 &&& (3 : Int32))), .val (.ref b1), .unset, .unset] [(.int (own_lushr x0 (16 : Int32)).toInt32), (.int (2 : Int32)), (.ref b1)]))
  refine own_of (fun _ kk => XS.i2b X3.here hx rfl (hb hby at_47) rfl kk) ?_
  show own_Fin _ _ _ _ _ _ _ (T3.setTop (mkF m 48 #[.val (.long x0), .second, .val (.long x1), .second, .val (.int x2), .val (.int x3), .val (.int ((x2 &&& (2147483647 : Int32)) % (9 : Int32))), .val (.int (x3 &&& (3 : Int32))), .val (.ref b1), .unset, .unset] [(.int (own_i2b (own_lushr x0 (16 : Int32)).toInt32)), (.int (2 : Int32)), (.ref b1)]))
  refine own_bastore X3 hx hZ e3 A3 N3 ge_b1 (i := 2) (by decide) (by decide) (hb hby at_48) ?_
  intro T4 h4 l4 X4 N4 e4 W4 A4
  replace A4 : own_Arf Z h4 b1 .byte 16 (fun j => if j = 2 then (.int (own_i2b (own_i2b (own_lushr x0 (16 : Int32)).toInt32))) else (fun j => if j = 1 then (.int (own_i2b (own_i2b (own_lushr x0 (8 : Int32)).toInt32))) else (fun j => if j = 0 then (.int (own_i2b (own_i2b x0.toInt32))) else (fun _ => (.int (0 : Int32))) j) j) j) := A4
  have ZW4 : n0 ≤ h4.size := by rw [Wr.size W4]; exact ZW3
  show own_Fin _ _ _ _ _ _ _ (T4.setTop (mkF m 49 #[.val (.long x0), .second, .val (.long x1), .second, .val (.int x2), .val (.int x3), .val (.int ((x2 &&& (2147483647 : Int32)) % (9 : Int32))), .val (.int (x3 &&& (3 : Int32))), .val (.ref b1), .unset, .unset] []))
  refine own_of (fun _ kk => XS.aload X4.here hx rfl (hb hby at_49) rfl rfl kk) ?_
  show own_Fin _ _ _ _ _ _ _ (T4.setTop (mkF m 51 #[.val (.long x0), .second, .val (.long x1), .second, .val (.int x2), .val (.int x3), .val (.int ((x2 &&& (2147483647 : Int32)) % (9 : Int32))), .val (.int (x3 &&& (3 : Int32))), .val (.ref b1), .unset, .unset] [(.ref b1)]))
  refine own_of (fun _ kk => XS.iconst X4.here hx rfl (hb hby at_51) kk) ?_
  show own_Fin _ _ _ _ _ _ _ (T4.setTop (mkF m 52 #[.val (.long x0), .second, .val (.long x1), .second, .val (.int x2), .val (.int x3), .val (.int ((x2 &&& (2147483647 : Int32)) % (9 : Int32))), .val (.int (x3 &&& (3 : Int32))), .val (.ref b1), .unset, .unset] [(.int (3 : Int32)), (.ref b1)]))
  refine own_of (fun _ kk => XS.lloadN X4.here hx rfl (hb hby at_52) rfl kk) ?_
  show own_Fin _ _ _ _ _ _ _ (T4.setTop (mkF m 53 #[.val (.long x0), .second, .val (.long x1), .second, .val (.int x2), .val (.int x3), .val (.int ((x2 &&& (2147483647 : Int32)) % (9 : Int32))), .val (.int (x3 &&& (3 : Int32))), .val (.ref b1), .unset, .unset] [(.long x0), (.int (3 : Int32)), (.ref b1)]))
  refine own_of (fun _ kk => XS.bipush X4.here hx rfl (hb hby at_53) kk) ?_
  show own_Fin _ _ _ _ _ _ _ (T4.setTop (mkF m 55 #[.val (.long x0), .second, .val (.long x1), .second, .val (.int x2), .val (.int x3), .val (.int ((x2 &&& (2147483647 : Int32)) % (9 : Int32))), .val (.int (x3 &&& (3 : Int32))), .val (.ref b1), .unset, .unset] [(.int (24 : Int32)), (.long x0), (.int (3 : Int32)), (.ref b1)]))
  refine own_of (fun _ kk => XS.lushr X4.here hx rfl (hb hby at_55) rfl kk) ?_
  show own_Fin _ _ _ _ _ _ _ (T4.setTop (mkF m 56 #[.val (.long x0), .second, .val (.long x1), .second, .val (.int x2), .val (.int x3), .val (.int ((x2 &&& (2147483647 : Int32)) % (9 : Int32))), .val (.int (x3 &&& (3 : Int32))), .val (.ref b1), .unset, .unset] [(.long (own_lushr x0 (24 : Int32))), (.int (3 : Int32)), (.ref b1)]))
  refine own_of (fun _ kk => XS.l2i X4.here hx rfl (hb hby at_56) rfl kk) ?_
  show own_Fin _ _ _ _ _ _ _ (T4.setTop (mkF m 57 #[.val (.long x0), .second, .val (.long x1), .second, .val (.int x2), .val (.int x3), .val (.int ((x2 &&& (2147483647 : Int32)) % (9 : Int32))), .val (.int (x3 &&& (3 : Int32))), .val (.ref b1), .unset, .unset] [(.int (own_lushr x0 (24 : Int32)).toInt32), (.int (3 : Int32)), (.ref b1)]))
  refine own_of (fun _ kk => XS.i2b X4.here hx rfl (hb hby at_57) rfl kk) ?_
  show own_Fin _ _ _ _ _ _ _ (T4.setTop (mkF m 58 #[.val (.long x0), .second, .val (.long x1), .second, .val (.int x2), .val (.int x3), .val (.int ((x2 &&& (2147483647 : Int32)) % (9 : Int32))), .val (.int (x3 &&& (3 : Int32))), .val (.ref b1), .unset, .unset] [(.int (own_i2b (own_lushr x0 (24 : Int32)).toInt32)), (.int (3 : Int32)), (.ref b1)]))
  refine own_bastore X4 hx hZ e4 A4 N4 ge_b1 (i := 3) (by decide) (by decide) (hb hby at_58) ?_
  intro T5 h5 l5 X5 N5 e5 W5 A5
  replace A5 : own_Arf Z h5 b1 .byte 16 (fun j => if j = 3 then (.int (own_i2b (own_i2b (own_lushr x0 (24 : Int32)).toInt32))) else (fun j => if j = 2 then (.int (own_i2b (own_i2b (own_lushr x0 (16 : Int32)).toInt32))) else (fun j => if j = 1 then (.int (own_i2b (own_i2b (own_lushr x0 (8 : Int32)).toInt32))) else (fun j => if j = 0 then (.int (own_i2b (own_i2b x0.toInt32))) else (fun _ => (.int (0 : Int32))) j) j) j) j) := A5
  have ZW5 : n0 ≤ h5.size := by rw [Wr.size W5]; exact ZW4
  show own_Fin _ _ _ _ _ _ _ (T5.setTop (mkF m 59 #[.val (.long x0), .second, .val (.long x1), .second, .val (.int x2), .val (.int x3), .val (.int ((x2 &&& (2147483647 : Int32)) % (9 : Int32))), .val (.int (x3 &&& (3 : Int32))), .val (.ref b1), .unset, .unset] []))
  refine own_of (fun _ kk => XS.aload X5.here hx rfl (hb hby at_59) rfl rfl kk) ?_
  show own_Fin _ _ _ _ _ _ _ (T5.setTop (mkF m 61 #[.val (.long x0), .second, .val (.long x1), .second, .val (.int x2), .val (.int x3), .val (.int ((x2 &&& (2147483647 : Int32)) % (9 : Int32))), .val (.int (x3 &&& (3 : Int32))), .val (.ref b1), .unset, .unset] [(.ref b1)]))
  refine own_of (fun _ kk => XS.iconst X5.here hx rfl (hb hby at_61) kk) ?_
  show own_Fin _ _ _ _ _ _ _ (T5.setTop (mkF m 62 #[.val (.long x0), .second, .val (.long x1), .second, .val (.int x2), .val (.int x3), .val (.int ((x2 &&& (2147483647 : Int32)) % (9 : Int32))), .val (.int (x3 &&& (3 : Int32))), .val (.ref b1), .unset, .unset] [(.int (4 : Int32)), (.ref b1)]))
  refine own_of (fun _ kk => XS.lloadN X5.here hx rfl (hb hby at_62) rfl kk) ?_
  show own_Fin _ _ _ _ _ _ _ (T5.setTop (mkF m 63 #[.val (.long x0), .second, .val (.long x1), .second, .val (.int x2), .val (.int x3), .val (.int ((x2 &&& (2147483647 : Int32)) % (9 : Int32))), .val (.int (x3 &&& (3 : Int32))), .val (.ref b1), .unset, .unset] [(.long x0), (.int (4 : Int32)), (.ref b1)]))
  refine own_of (fun _ kk => XS.bipush X5.here hx rfl (hb hby at_63) kk) ?_
  show own_Fin _ _ _ _ _ _ _ (T5.setTop (mkF m 65 #[.val (.long x0), .second, .val (.long x1), .second, .val (.int x2), .val (.int x3), .val (.int ((x2 &&& (2147483647 : Int32)) % (9 : Int32))), .val (.int (x3 &&& (3 : Int32))), .val (.ref b1), .unset, .unset] [(.int (32 : Int32)), (.long x0), (.int (4 : Int32)), (.ref b1)]))
  refine own_of (fun _ kk => XS.lushr X5.here hx rfl (hb hby at_65) rfl kk) ?_
  show own_Fin _ _ _ _ _ _ _ (T5.setTop (mkF m 66 #[.val (.long x0), .second, .val (.long x1), .second, .val (.int x2), .val (.int x3), .val (.int ((x2 &&& (2147483647 : Int32)) % (9 : Int32))), .val (.int (x3 &&& (3 : Int32))), .val (.ref b1), .unset, .unset] [(.long (own_lushr x0 (32 : Int32))), (.int (4 : Int32)), (.ref b1)]))
  refine own_of (fun _ kk => XS.l2i X5.here hx rfl (hb hby at_66) rfl kk) ?_
  show own_Fin _ _ _ _ _ _ _ (T5.setTop (mkF m 67 #[.val (.long x0), .second, .val (.long x1), .second, .val (.int x2), .val (.int x3), .val (.int ((x2 &&& (2147483647 : Int32)) % (9 : Int32))), .val (.int (x3 &&& (3 : Int32))), .val (.ref b1), .unset, .unset] [(.int (own_lushr x0 (32 : Int32)).toInt32), (.int (4 : Int32)), (.ref b1)]))
  refine own_of (fun _ kk => XS.i2b X5.here hx rfl (hb hby at_67) rfl kk) ?_
  show own_Fin _ _ _ _ _ _ _ (T5.setTop (mkF m 68 #[.val (.long x0), .second, .val (.long x1), .second, .val (.int x2), .val (.int x3), .val (.int ((x2 &&& (2147483647 : Int32)) % (9 : Int32))), .val (.int (x3 &&& (3 : Int32))), .val (.ref b1), .unset, .unset] [(.int (own_i2b (own_lushr x0 (32 : Int32)).toInt32)), (.int (4 : Int32)), (.ref b1)]))
  refine own_bastore X5 hx hZ e5 A5 N5 ge_b1 (i := 4) (by decide) (by decide) (hb hby at_68) ?_
  intro T6 h6 l6 X6 N6 e6 W6 A6
  replace A6 : own_Arf Z h6 b1 .byte 16 (fun j => if j = 4 then (.int (own_i2b (own_i2b (own_lushr x0 (32 : Int32)).toInt32))) else (fun j => if j = 3 then (.int (own_i2b (own_i2b (own_lushr x0 (24 : Int32)).toInt32))) else (fun j => if j = 2 then (.int (own_i2b (own_i2b (own_lushr x0 (16 : Int32)).toInt32))) else (fun j => if j = 1 then (.int (own_i2b (own_i2b (own_lushr x0 (8 : Int32)).toInt32))) else (fun j => if j = 0 then (.int (own_i2b (own_i2b x0.toInt32))) else (fun _ => (.int (0 : Int32))) j) j) j) j) j) := A6
  have ZW6 : n0 ≤ h6.size := by rw [Wr.size W6]; exact ZW5
  show own_Fin _ _ _ _ _ _ _ (T6.setTop (mkF m 69 #[.val (.long x0), .second, .val (.long x1), .second, .val (.int x2), .val (.int x3), .val (.int ((x2 &&& (2147483647 : Int32)) % (9 : Int32))), .val (.int (x3 &&& (3 : Int32))), .val (.ref b1), .unset, .unset] []))
  refine own_of (fun _ kk => XS.aload X6.here hx rfl (hb hby at_69) rfl rfl kk) ?_
  show own_Fin _ _ _ _ _ _ _ (T6.setTop (mkF m 71 #[.val (.long x0), .second, .val (.long x1), .second, .val (.int x2), .val (.int x3), .val (.int ((x2 &&& (2147483647 : Int32)) % (9 : Int32))), .val (.int (x3 &&& (3 : Int32))), .val (.ref b1), .unset, .unset] [(.ref b1)]))
  refine own_of (fun _ kk => XS.iconst X6.here hx rfl (hb hby at_71) kk) ?_
  show own_Fin _ _ _ _ _ _ _ (T6.setTop (mkF m 72 #[.val (.long x0), .second, .val (.long x1), .second, .val (.int x2), .val (.int x3), .val (.int ((x2 &&& (2147483647 : Int32)) % (9 : Int32))), .val (.int (x3 &&& (3 : Int32))), .val (.ref b1), .unset, .unset] [(.int (5 : Int32)), (.ref b1)]))
  refine own_of (fun _ kk => XS.lloadN X6.here hx rfl (hb hby at_72) rfl kk) ?_
  show own_Fin _ _ _ _ _ _ _ (T6.setTop (mkF m 73 #[.val (.long x0), .second, .val (.long x1), .second, .val (.int x2), .val (.int x3), .val (.int ((x2 &&& (2147483647 : Int32)) % (9 : Int32))), .val (.int (x3 &&& (3 : Int32))), .val (.ref b1), .unset, .unset] [(.long x0), (.int (5 : Int32)), (.ref b1)]))
  refine own_of (fun _ kk => XS.bipush X6.here hx rfl (hb hby at_73) kk) ?_
  show own_Fin _ _ _ _ _ _ _ (T6.setTop (mkF m 75 #[.val (.long x0), .second, .val (.long x1), .second, .val (.int x2), .val (.int x3), .val (.int ((x2 &&& (2147483647 : Int32)) % (9 : Int32))), .val (.int (x3 &&& (3 : Int32))), .val (.ref b1), .unset, .unset] [(.int (40 : Int32)), (.long x0), (.int (5 : Int32)), (.ref b1)]))
  refine own_of (fun _ kk => XS.lushr X6.here hx rfl (hb hby at_75) rfl kk) ?_
  show own_Fin _ _ _ _ _ _ _ (T6.setTop (mkF m 76 #[.val (.long x0), .second, .val (.long x1), .second, .val (.int x2), .val (.int x3), .val (.int ((x2 &&& (2147483647 : Int32)) % (9 : Int32))), .val (.int (x3 &&& (3 : Int32))), .val (.ref b1), .unset, .unset] [(.long (own_lushr x0 (40 : Int32))), (.int (5 : Int32)), (.ref b1)]))
  refine own_of (fun _ kk => XS.l2i X6.here hx rfl (hb hby at_76) rfl kk) ?_
  show own_Fin _ _ _ _ _ _ _ (T6.setTop (mkF m 77 #[.val (.long x0), .second, .val (.long x1), .second, .val (.int x2), .val (.int x3), .val (.int ((x2 &&& (2147483647 : Int32)) % (9 : Int32))), .val (.int (x3 &&& (3 : Int32))), .val (.ref b1), .unset, .unset] [(.int (own_lushr x0 (40 : Int32)).toInt32), (.int (5 : Int32)), (.ref b1)]))
  refine own_of (fun _ kk => XS.i2b X6.here hx rfl (hb hby at_77) rfl kk) ?_
  show own_Fin _ _ _ _ _ _ _ (T6.setTop (mkF m 78 #[.val (.long x0), .second, .val (.long x1), .second, .val (.int x2), .val (.int x3), .val (.int ((x2 &&& (2147483647 : Int32)) % (9 : Int32))), .val (.int (x3 &&& (3 : Int32))), .val (.ref b1), .unset, .unset] [(.int (own_i2b (own_lushr x0 (40 : Int32)).toInt32)), (.int (5 : Int32)), (.ref b1)]))
  refine own_bastore X6 hx hZ e6 A6 N6 ge_b1 (i := 5) (by decide) (by decide) (hb hby at_78) ?_
  intro T7 h7 l7 X7 N7 e7 W7 A7
  replace A7 : own_Arf Z h7 b1 .byte 16 (fun j => if j = 5 then (.int (own_i2b (own_i2b (own_lushr x0 (40 : Int32)).toInt32))) else (fun j => if j = 4 then (.int (own_i2b (own_i2b (own_lushr x0 (32 : Int32)).toInt32))) else (fun j => if j = 3 then (.int (own_i2b (own_i2b (own_lushr x0 (24 : Int32)).toInt32))) else (fun j => if j = 2 then (.int (own_i2b (own_i2b (own_lushr x0 (16 : Int32)).toInt32))) else (fun j => if j = 1 then (.int (own_i2b (own_i2b (own_lushr x0 (8 : Int32)).toInt32))) else (fun j => if j = 0 then (.int (own_i2b (own_i2b x0.toInt32))) else (fun _ => (.int (0 : Int32))) j) j) j) j) j) j) := A7
  have ZW7 : n0 ≤ h7.size := by rw [Wr.size W7]; exact ZW6
  show own_Fin _ _ _ _ _ _ _ (T7.setTop (mkF m 79 #[.val (.long x0), .second, .val (.long x1), .second, .val (.int x2), .val (.int x3), .val (.int ((x2 &&& (2147483647 : Int32)) % (9 : Int32))), .val (.int (x3 &&& (3 : Int32))), .val (.ref b1), .unset, .unset] []))
  refine own_of (fun _ kk => XS.aload X7.here hx rfl (hb hby at_79) rfl rfl kk) ?_
  show own_Fin _ _ _ _ _ _ _ (T7.setTop (mkF m 81 #[.val (.long x0), .second, .val (.long x1), .second, .val (.int x2), .val (.int x3), .val (.int ((x2 &&& (2147483647 : Int32)) % (9 : Int32))), .val (.int (x3 &&& (3 : Int32))), .val (.ref b1), .unset, .unset] [(.ref b1)]))
  refine own_of (fun _ kk => XS.bipush X7.here hx rfl (hb hby at_81) kk) ?_
  show own_Fin _ _ _ _ _ _ _ (T7.setTop (mkF m 83 #[.val (.long x0), .second, .val (.long x1), .second, .val (.int x2), .val (.int x3), .val (.int ((x2 &&& (2147483647 : Int32)) % (9 : Int32))), .val (.int (x3 &&& (3 : Int32))), .val (.ref b1), .unset, .unset] [(.int (6 : Int32)), (.ref b1)]))
  refine own_of (fun _ kk => XS.lloadN X7.here hx rfl (hb hby at_83) rfl kk) ?_
  show own_Fin _ _ _ _ _ _ _ (T7.setTop (mkF m 84 #[.val (.long x0), .second, .val (.long x1), .second, .val (.int x2), .val (.int x3), .val (.int ((x2 &&& (2147483647 : Int32)) % (9 : Int32))), .val (.int (x3 &&& (3 : Int32))), .val (.ref b1), .unset, .unset] [(.long x0), (.int (6 : Int32)), (.ref b1)]))
  refine own_of (fun _ kk => XS.bipush X7.here hx rfl (hb hby at_84) kk) ?_
  show own_Fin _ _ _ _ _ _ _ (T7.setTop (mkF m 86 #[.val (.long x0), .second, .val (.long x1), .second, .val (.int x2), .val (.int x3), .val (.int ((x2 &&& (2147483647 : Int32)) % (9 : Int32))), .val (.int (x3 &&& (3 : Int32))), .val (.ref b1), .unset, .unset] [(.int (48 : Int32)), (.long x0), (.int (6 : Int32)), (.ref b1)]))
  refine own_of (fun _ kk => XS.lushr X7.here hx rfl (hb hby at_86) rfl kk) ?_
  show own_Fin _ _ _ _ _ _ _ (T7.setTop (mkF m 87 #[.val (.long x0), .second, .val (.long x1), .second, .val (.int x2), .val (.int x3), .val (.int ((x2 &&& (2147483647 : Int32)) % (9 : Int32))), .val (.int (x3 &&& (3 : Int32))), .val (.ref b1), .unset, .unset] [(.long (own_lushr x0 (48 : Int32))), (.int (6 : Int32)), (.ref b1)]))
  refine own_of (fun _ kk => XS.l2i X7.here hx rfl (hb hby at_87) rfl kk) ?_
  show own_Fin _ _ _ _ _ _ _ (T7.setTop (mkF m 88 #[.val (.long x0), .second, .val (.long x1), .second, .val (.int x2), .val (.int x3), .val (.int ((x2 &&& (2147483647 : Int32)) % (9 : Int32))), .val (.int (x3 &&& (3 : Int32))), .val (.ref b1), .unset, .unset] [(.int (own_lushr x0 (48 : Int32)).toInt32), (.int (6 : Int32)), (.ref b1)]))
  refine own_of (fun _ kk => XS.i2b X7.here hx rfl (hb hby at_88) rfl kk) ?_
  show own_Fin _ _ _ _ _ _ _ (T7.setTop (mkF m 89 #[.val (.long x0), .second, .val (.long x1), .second, .val (.int x2), .val (.int x3), .val (.int ((x2 &&& (2147483647 : Int32)) % (9 : Int32))), .val (.int (x3 &&& (3 : Int32))), .val (.ref b1), .unset, .unset] [(.int (own_i2b (own_lushr x0 (48 : Int32)).toInt32)), (.int (6 : Int32)), (.ref b1)]))
  refine own_bastore X7 hx hZ e7 A7 N7 ge_b1 (i := 6) (by decide) (by decide) (hb hby at_89) ?_
  intro T8 h8 l8 X8 N8 e8 W8 A8
  replace A8 : own_Arf Z h8 b1 .byte 16 (fun j => if j = 6 then (.int (own_i2b (own_i2b (own_lushr x0 (48 : Int32)).toInt32))) else (fun j => if j = 5 then (.int (own_i2b (own_i2b (own_lushr x0 (40 : Int32)).toInt32))) else (fun j => if j = 4 then (.int (own_i2b (own_i2b (own_lushr x0 (32 : Int32)).toInt32))) else (fun j => if j = 3 then (.int (own_i2b (own_i2b (own_lushr x0 (24 : Int32)).toInt32))) else (fun j => if j = 2 then (.int (own_i2b (own_i2b (own_lushr x0 (16 : Int32)).toInt32))) else (fun j => if j = 1 then (.int (own_i2b (own_i2b (own_lushr x0 (8 : Int32)).toInt32))) else (fun j => if j = 0 then (.int (own_i2b (own_i2b x0.toInt32))) else (fun _ => (.int (0 : Int32))) j) j) j) j) j) j) j) := A8
  have ZW8 : n0 ≤ h8.size := by rw [Wr.size W8]; exact ZW7
  show own_Fin _ _ _ _ _ _ _ (T8.setTop (mkF m 90 #[.val (.long x0), .second, .val (.long x1), .second, .val (.int x2), .val (.int x3), .val (.int ((x2 &&& (2147483647 : Int32)) % (9 : Int32))), .val (.int (x3 &&& (3 : Int32))), .val (.ref b1), .unset, .unset] []))
  refine own_of (fun _ kk => XS.aload X8.here hx rfl (hb hby at_90) rfl rfl kk) ?_
  show own_Fin _ _ _ _ _ _ _ (T8.setTop (mkF m 92 #[.val (.long x0), .second, .val (.long x1), .second, .val (.int x2), .val (.int x3), .val (.int ((x2 &&& (2147483647 : Int32)) % (9 : Int32))), .val (.int (x3 &&& (3 : Int32))), .val (.ref b1), .unset, .unset] [(.ref b1)]))
  refine own_of (fun _ kk => XS.bipush X8.here hx rfl (hb hby at_92) kk) ?_
  show own_Fin _ _ _ _ _ _ _ (T8.setTop (mkF m 94 #[.val (.long x0), .second, .val (.long x1), .second, .val (.int x2), .val (.int x3), .val (.int ((x2 &&& (2147483647 : Int32)) % (9 : Int32))), .val (.int (x3 &&& (3 : Int32))), .val (.ref b1), .unset, .unset] [(.int (7 : Int32)), (.ref b1)]))
  refine own_of (fun _ kk => XS.lloadN X8.here hx rfl (hb hby at_94) rfl kk) ?_
  show own_Fin _ _ _ _ _ _ _ (T8.setTop (mkF m 95 #[.val (.long x0), .second, .val (.long x1), .second, .val (.int x2), .val (.int x3), .val (.int ((x2 &&& (2147483647 : Int32)) % (9 : Int32))), .val (.int (x3 &&& (3 : Int32))), .val (.ref b1), .unset, .unset] [(.long x0), (.int (7 : Int32)), (.ref b1)]))
  refine own_of (fun _ kk => XS.bipush X8.here hx rfl (hb hby at_95) kk) ?_
  show own_Fin _ _ _ _ _ _ _ (T8.setTop (mkF m 97 #[.val (.long x0), .second, .val (.long x1), .second, .val (.int x2), .val (.int x3), .val (.int ((x2 &&& (2147483647 : Int32)) % (9 : Int32))), .val (.int (x3 &&& (3 : Int32))), .val (.ref b1), .unset, .unset] [(.int (56 : Int32)), (.long x0), (.int (7 : Int32)), (.ref b1)]))
  refine own_of (fun _ kk => XS.lushr X8.here hx rfl (hb hby at_97) rfl kk) ?_
  show own_Fin _ _ _ _ _ _ _ (T8.setTop (mkF m 98 #[.val (.long x0), .second, .val (.long x1), .second, .val (.int x2), .val (.int x3), .val (.int ((x2 &&& (2147483647 : Int32)) % (9 : Int32))), .val (.int (x3 &&& (3 : Int32))), .val (.ref b1), .unset, .unset] [(.long (own_lushr x0 (56 : Int32))), (.int (7 : Int32)), (.ref b1)]))
  refine own_of (fun _ kk => XS.l2i X8.here hx rfl (hb hby at_98) rfl kk) ?_
  show own_Fin _ _ _ _ _ _ _ (T8.setTop (mkF m 99 #[.val (.long x0), .second, .val (.long x1), .second, .val (.int x2), .val (.int x3), .val (.int ((x2 &&& (2147483647 : Int32)) % (9 : Int32))), .val (.int (x3 &&& (3 : Int32))), .val (.ref b1), .unset, .unset] [(.int (own_lushr x0 (56 : Int32)).toInt32), (.int (7 : Int32)), (.ref b1)]))
  refine own_of (fun _ kk => XS.i2b X8.here hx rfl (hb hby at_99) rfl kk) ?_
  show own_Fin _ _ _ _ _ _ _ (T8.setTop (mkF m 100 #[.val (.long x0), .second, .val (.long x1), .second, .val (.int x2), .val (.int x3), .val (.int ((x2 &&& (2147483647 : Int32)) % (9 : Int32))), .val (.int (x3 &&& (3 : Int32))), .val (.ref b1), .unset, .unset] [(.int (own_i2b (own_lushr x0 (56 : Int32)).toInt32)), (.int (7 : Int32)), (.ref b1)]))
  refine own_bastore X8 hx hZ e8 A8 N8 ge_b1 (i := 7) (by decide) (by decide) (hb hby at_100) ?_
  intro T9 h9 l9 X9 N9 e9 W9 A9
  replace A9 : own_Arf Z h9 b1 .byte 16 (fun j => if j = 7 then (.int (own_i2b (own_i2b (own_lushr x0 (56 : Int32)).toInt32))) else (fun j => if j = 6 then (.int (own_i2b (own_i2b (own_lushr x0 (48 : Int32)).toInt32))) else (fun j => if j = 5 then (.int (own_i2b (own_i2b (own_lushr x0 (40 : Int32)).toInt32))) else (fun j => if j = 4 then (.int (own_i2b (own_i2b (own_lushr x0 (32 : Int32)).toInt32))) else (fun j => if j = 3 then (.int (own_i2b (own_i2b (own_lushr x0 (24 : Int32)).toInt32))) else (fun j => if j = 2 then (.int (own_i2b (own_i2b (own_lushr x0 (16 : Int32)).toInt32))) else (fun j => if j = 1 then (.int (own_i2b (own_i2b (own_lushr x0 (8 : Int32)).toInt32))) else (fun j => if j = 0 then (.int (own_i2b (own_i2b x0.toInt32))) else (fun _ => (.int (0 : Int32))) j) j) j) j) j) j) j) j) := A9
  have ZW9 : n0 ≤ h9.size := by rw [Wr.size W9]; exact ZW8
  show own_Fin _ _ _ _ _ _ _ (T9.setTop (mkF m 101 #[.val (.long x0), .second, .val (.long x1), .second, .val (.int x2), .val (.int x3), .val (.int ((x2 &&& (2147483647 : Int32)) % (9 : Int32))), .val (.int (x3 &&& (3 : Int32))), .val (.ref b1), .unset, .unset] []))
  refine own_of (fun _ kk => XS.aload X9.here hx rfl (hb hby at_101) rfl rfl kk) ?_
  show own_Fin _ _ _ _ _ _ _ (T9.setTop (mkF m 103 #[.val (.long x0), .second, .val (.long x1), .second, .val (.int x2), .val (.int x3), .val (.int ((x2 &&& (2147483647 : Int32)) % (9 : Int32))), .val (.int (x3 &&& (3 : Int32))), .val (.ref b1), .unset, .unset] [(.ref b1)]))
  refine own_of (fun _ kk => XS.bipush X9.here hx rfl (hb hby at_103) kk) ?_
  show own_Fin _ _ _ _ _ _ _ (T9.setTop (mkF m 105 #[.val (.long x0), .second, .val (.long x1), .second, .val (.int x2), .val (.int x3), .val (.int ((x2 &&& (2147483647 : Int32)) % (9 : Int32))), .val (.int (x3 &&& (3 : Int32))), .val (.ref b1), .unset, .unset] [(.int (8 : Int32)), (.ref b1)]))
  refine own_of (fun _ kk => XS.lloadN X9.here hx rfl (hb hby at_105) rfl kk) ?_
  show own_Fin _ _ _ _ _ _ _ (T9.setTop (mkF m 106 #[.val (.long x0), .second, .val (.long x1), .second, .val (.int x2), .val (.int x3), .val (.int ((x2 &&& (2147483647 : Int32)) % (9 : Int32))), .val (.int (x3 &&& (3 : Int32))), .val (.ref b1), .unset, .unset] [(.long x1), (.int (8 : Int32)), (.ref b1)]))
  refine own_of (fun _ kk => XS.l2i X9.here hx rfl (hb hby at_106) rfl kk) ?_
  show own_Fin _ _ _ _ _ _ _ (T9.setTop (mkF m 107 #[.val (.long x0), .second, .val (.long x1), .second, .val (.int x2), .val (.int x3), .val (.int ((x2 &&& (2147483647 : Int32)) % (9 : Int32))), .val (.int (x3 &&& (3 : Int32))), .val (.ref b1), .unset, .unset] [(.int x1.toInt32), (.int (8 : Int32)), (.ref b1)]))
  refine own_of (fun _ kk => XS.i2b X9.here hx rfl (hb hby at_107) rfl kk) ?_
  show own_Fin _ _ _ _ _ _ _ (T9.setTop (mkF m 108 #[.val (.long x0), .second, .val (.long x1), .second, .val (.int x2), .val (.int x3), .val (.int ((x2 &&& (2147483647 : Int32)) % (9 : Int32))), .val (.int (x3 &&& (3 : Int32))), .val (.ref b1), .unset, .unset] [(.int (own_i2b x1.toInt32)), (.int (8 : Int32)), (.ref b1)]))
  refine own_bastore X9 hx hZ e9 A9 N9 ge_b1 (i := 8) (by decide) (by decide) (hb hby at_108) ?_
  intro T10 h10 l10 X10 N10 e10 W10 A10
  replace A10 : own_Arf Z h10 b1 .byte 16 (fun j => if j = 8 then (.int (own_i2b (own_i2b x1.toInt32))) else (fun j => if j = 7 then (.int (own_i2b (own_i2b (own_lushr x0 (56 : Int32)).toInt32))) else (fun j => if j = 6 then (.int (own_i2b (own_i2b (own_lushr x0 (48 : Int32)).toInt32))) else (fun j => if j = 5 then (.int (own_i2b (own_i2b (own_lushr x0 (40 : Int32)).toInt32))) else (fun j => if j = 4 then (.int (own_i2b (own_i2b (own_lushr x0 (32 : Int32)).toInt32))) else (fun j => if j = 3 then (.int (own_i2b (own_i2b (own_lushr x0 (24 : Int32)).toInt32))) else (fun j => if j = 2 then (.int (own_i2b (own_i2b (own_lushr x0 (16 : Int32)).toInt32))) else (fun j => if j = 1 then (.int (own_i2b (own_i2b (own_lushr x0 (8 : Int32)).toInt32))) else (fun j => if j = 0 then (.int (own_i2b (own_i2b x0.toInt32))) else (fun _ => (.int (0 : Int32))) j) j) j) j) j) j) j) j) j) := A10
  have ZW10 : n0 ≤ h10.size := by rw [Wr.size W10]; exact ZW9
  show own_Fin _ _ _ _ _ _ _ (T10.setTop (mkF m 109 #[.val (.long x0), .second, .val (.long x1), .second, .val (.int x2), .val (.int x3), .val (.int ((x2 &&& (2147483647 : Int32)) % (9 : Int32))), .val (.int (x3 &&& (3 : Int32))), .val (.ref b1), .unset, .unset] []))
  refine own_of (fun _ kk => XS.aload X10.here hx rfl (hb hby at_109) rfl rfl kk) ?_
  show own_Fin _ _ _ _ _ _ _ (T10.setTop (mkF m 111 #[.val (.long x0), .second, .val (.long x1), .second, .val (.int x2), .val (.int x3), .val (.int ((x2 &&& (2147483647 : Int32)) % (9 : Int32))), .val (.int (x3 &&& (3 : Int32))), .val (.ref b1), .unset, .unset] [(.ref b1)]))
  refine own_of (fun _ kk => XS.bipush X10.here hx rfl (hb hby at_111) kk) ?_
  show own_Fin _ _ _ _ _ _ _ (T10.setTop (mkF m 113 #[.val (.long x0), .second, .val (.long x1), .second, .val (.int x2), .val (.int x3), .val (.int ((x2 &&& (2147483647 : Int32)) % (9 : Int32))), .val (.int (x3 &&& (3 : Int32))), .val (.ref b1), .unset, .unset] [(.int (9 : Int32)), (.ref b1)]))
  refine own_of (fun _ kk => XS.lloadN X10.here hx rfl (hb hby at_113) rfl kk) ?_
  show own_Fin _ _ _ _ _ _ _ (T10.setTop (mkF m 114 #[.val (.long x0), .second, .val (.long x1), .second, .val (.int x2), .val (.int x3), .val (.int ((x2 &&& (2147483647 : Int32)) % (9 : Int32))), .val (.int (x3 &&& (3 : Int32))), .val (.ref b1), .unset, .unset] [(.long x1), (.int (9 : Int32)), (.ref b1)]))
  refine own_of (fun _ kk => XS.bipush X10.here hx rfl (hb hby at_114) kk) ?_
  show own_Fin _ _ _ _ _ _ _ (T10.setTop (mkF m 116 #[.val (.long x0), .second, .val (.long x1), .second, .val (.int x2), .val (.int x3), .val (.int ((x2 &&& (2147483647 : Int32)) % (9 : Int32))), .val (.int (x3 &&& (3 : Int32))), .val (.ref b1), .unset, .unset] [(.int (8 : Int32)), (.long x1), (.int (9 : Int32)), (.ref b1)]))
  refine own_of (fun _ kk => XS.lushr X10.here hx rfl (hb hby at_116) rfl kk) ?_
  show own_Fin _ _ _ _ _ _ _ (T10.setTop (mkF m 117 #[.val (.long x0), .second, .val (.long x1), .second, .val (.int x2), .val (.int x3), .val (.int ((x2 &&& (2147483647 : Int32)) % (9 : Int32))), .val (.int (x3 &&& (3 : Int32))), .val (.ref b1), .unset, .unset] [(.long (own_lushr x1 (8 : Int32))), (.int (9 : Int32)), (.ref b1)]))
  refine own_of (fun _ kk => XS.l2i X10.here hx rfl (hb hby at_117) rfl kk) ?_
  show own_Fin _ _ _ _ _ _ _ (T10.setTop (mkF m 118 #[.val (.long x0), .second, .val (.long x1), .second, .val (.int x2), .val (.int x3), .val (.int ((x2 &&& (2147483647 : Int32)) % (9 : Int32))), .val (.int (x3 &&& (3 : Int32))), .val (.ref b1), .unset, .unset] [(.int (own_lushr x1 (8 : Int32)).toInt32), (.int (9 : Int32)), (.ref b1)]))
  refine own_of (fun _ kk => XS.i2b X10.here hx rfl (hb hby at_118) rfl kk) ?_
  show own_Fin _ _ _ _ _ _ _ (T10.setTop (mkF m 119 #[.val (.long x0), .second, .val (.long x1), .second, .val (.int x2), .val (.int x3), .val (.int ((x2 &&& (2147483647 : Int32)) % (9 : Int32))), .val (.int (x3 &&& (3 : Int32))), .val (.ref b1), .unset, .unset] [(.int (own_i2b (own_lushr x1 (8 : Int32)).toInt32)), (.int (9 : Int32)), (.ref b1)]))
  refine own_bastore X10 hx hZ e10 A10 N10 ge_b1 (i := 9) (by decide) (by decide) (hb hby at_119) ?_
  intro T11 h11 l11 X11 N11 e11 W11 A11
  replace A11 : own_Arf Z h11 b1 .byte 16 (fun j => if j = 9 then (.int (own_i2b (own_i2b (own_lushr x1 (8 : Int32)).toInt32))) else (fun j => if j = 8 then (.int (own_i2b (own_i2b x1.toInt32))) else (fun j => if j = 7 then (.int (own_i2b (own_i2b (own_lushr x0 (56 : Int32)).toInt32))) else (fun j => if j = 6 then (.int (own_i2b (own_i2b (own_lushr x0 (48 : Int32)).toInt32))) else (fun j => if j = 5 then (.int (own_i2b (own_i2b (own_lushr x0 (40 : Int32)).toInt32))) else (fun j => if j = 4 then (.int (own_i2b (own_i2b (own_lushr x0 (32 : Int32)).toInt32))) else (fun j => if j = 3 then (.int (own_i2b (own_i2b (own_lushr x0 (24 : Int32)).toInt32))) else (fun j => if j = 2 then (.int (own_i2b (own_i2b (own_lushr x0 (16 : Int32)).toInt32))) else (fun j => if j = 1 then (.int (own_i2b (own_i2b (own_lushr x0 (8 : Int32)).toInt32))) else (fun j => if j = 0 then (.int (own_i2b (own_i2b x0.toInt32))) else (fun _ => (.int (0 : Int32))) j) j) j) j) j) j) j) j) j) j) := A11
  have ZW11 : n0 ≤ h11.size := by rw [Wr.size W11]; exact ZW10
  show own_Fin _ _ _ _ _ _ _ (T11.setTop (mkF m 120 #[.val (.long x0), .second, .val (.long x1), .second, .val (.int x2), .val (.int x3), .val (.int ((x2 &&& (2147483647 : Int32)) % (9 : Int32))), .val (.int (x3 &&& (3 : Int32))), .val (.ref b1), .unset, .unset] []))
  refine own_of (fun _ kk => XS.aload X11.here hx rfl (hb hby at_120) rfl rfl kk) ?_
  show own_Fin _ _ _ _ _ _ _ (T11.setTop (mkF m 122 #[.val (.long x0), .second, .val (.long x1), .second, .val (.int x2), .val (.int x3), .val (.int ((x2 &&& (2147483647 : Int32)) % (9 : Int32))), .val (.int (x3 &&& (3 : Int32))), .val (.ref b1), .unset, .unset] [(.ref b1)]))
  refine own_of (fun _ kk => XS.bipush X11.here hx rfl (hb hby at_122) kk) ?_
  show own_Fin _ _ _ _ _ _ _ (T11.setTop (mkF m 124 #[.val (.long x0), .second, .val (.long x1), .second, .val (.int x2), .val (.int x3), .val (.int ((x2 &&& (2147483647 : Int32)) % (9 : Int32))), .val (.int (x3 &&& (3 : Int32))), .val (.ref b1), .unset, .unset] [(.int (10 : Int32)), (.ref b1)]))
  refine own_of (fun _ kk => XS.lloadN X11.here hx rfl (hb hby at_124) rfl kk) ?_
  show own_Fin _ _ _ _ _ _ _ (T11.setTop (mkF m 125 #[.val (.long x0), .second, .val (.long x1), .second, .val (.int x2), .val (.int x3), .val (.int ((x2 &&& (2147483647 : Int32)) % (9 : Int32))), .val (.int (x3 &&& (3 : Int32))), .val (.ref b1), .unset, .unset] [(.long x1), (.int (10 : Int32)), (.ref b1)]))
  refine own_of (fun _ kk => XS.bipush X11.here hx rfl (hb hby at_125) kk) ?_
  show own_Fin _ _ _ _ _ _ _ (T11.setTop (mkF m 127 #[.val (.long x0), .second, .val (.long x1), .second, .val (.int x2), .val (.int x3), .val (.int ((x2 &&& (2147483647 : Int32)) % (9 : Int32))), .val (.int (x3 &&& (3 : Int32))), .val (.ref b1), .unset, .unset] [(.int (16 : Int32)), (.long x1), (.int (10 : Int32)), (.ref b1)]))
  refine own_of (fun _ kk => XS.lushr X11.here hx rfl (hb hby at_127) rfl kk) ?_
  show own_Fin _ _ _ _ _ _ _ (T11.setTop (mkF m 128 #[.val (.long x0), .second, .val (.long x1), .second, .val (.int x2), .val (.int x3), .val (.int ((x2 &&& (2147483647 : Int32)) % (9 : Int32))), .val (.int (x3 &&& (3 : Int32))), .val (.ref b1), .unset, .unset] [(.long (own_lushr x1 (16 : Int32))), (.int (10 : Int32)), (.ref b1)]))
  refine own_of (fun _ kk => XS.l2i X11.here hx rfl (hb hby at_128) rfl kk) ?_
  show own_Fin _ _ _ _ _ _ _ (T11.setTop (mkF m 129 #[.val (.long x0), .second, .val (.long x1), .second, .val (.int x2), .val (.int x3), .val (.int ((x2 &&& (2147483647 : Int32)) % (9 : Int32))), .val (.int (x3 &&& (3 : Int32))), .val (.ref b1), .unset, .unset] [(.int (own_lushr x1 (16 : Int32)).toInt32), (.int (10 : Int32)), (.ref b1)]))
  refine own_of (fun _ kk => XS.i2b X11.here hx rfl (hb hby at_129) rfl kk) ?_
  show own_Fin _ _ _ _ _ _ _ (T11.setTop (mkF m 130 #[.val (.long x0), .second, .val (.long x1), .second, .val (.int x2), .val (.int x3), .val (.int ((x2 &&& (2147483647 : Int32)) % (9 : Int32))), .val (.int (x3 &&& (3 : Int32))), .val (.ref b1), .unset, .unset] [(.int (own_i2b (own_lushr x1 (16 : Int32)).toInt32)), (.int (10 : Int32)), (.ref b1)]))
  refine own_bastore X11 hx hZ e11 A11 N11 ge_b1 (i := 10) (by decide) (by decide) (hb hby at_130) ?_
  intro T12 h12 l12 X12 N12 e12 W12 A12
  replace A12 : own_Arf Z h12 b1 .byte 16 (fun j => if j = 10 then (.int (own_i2b (own_i2b (own_lushr x1 (16 : Int32)).toInt32))) else (fun j => if j = 9 then (.int (own_i2b (own_i2b (own_lushr x1 (8 : Int32)).toInt32))) else (fun j => if j = 8 then (.int (own_i2b (own_i2b x1.toInt32))) else (fun j => if j = 7 then (.int (own_i2b (own_i2b (own_lushr x0 (56 : Int32)).toInt32))) else (fun j => if j = 6 then (.int (own_i2b (own_i2b (own_lushr x0 (48 : Int32)).toInt32))) else (fun j => if j = 5 then (.int (own_i2b (own_i2b (own_lushr x0 (40 : Int32)).toInt32))) else (fun j => if j = 4 then (.int (own_i2b (own_i2b (own_lushr x0 (32 : Int32)).toInt32))) else (fun j => if j = 3 then (.int (own_i2b (own_i2b (own_lushr x0 (24 : Int32)).toInt32))) else (fun j => if j = 2 then (.int (own_i2b (own_i2b (own_lushr x0 (16 : Int32)).toInt32))) else (fun j => if j = 1 then (.int (own_i2b (own_i2b (own_lushr x0 (8 : Int32)).toInt32))) else (fun j => if j = 0 then (.int (own_i2b (own_i2b x0.toInt32))) else (fun _ => (.int (0 : Int32))) j) j) j) j) j) j) j) j) j) j) j) := A12
  have ZW12 : n0 ≤ h12.size := by rw [Wr.size W12]; exact ZW11
  show own_Fin _ _ _ _ _ _ _ (T12.setTop (mkF m 131 #[.val (.long x0), .second, .val (.long x1), .second, .val (.int x2), .val (.int x3), .val (.int ((x2 &&& (2147483647 : Int32)) % (9 : Int32))), .val (.int (x3 &&& (3 : Int32))), .val (.ref b1), .unset, .unset] []))
  refine own_of (fun _ kk => XS.aload X12.here hx rfl (hb hby at_131) rfl rfl kk) ?_
  show own_Fin _ _ _ _ _ _ _ (T12.setTop (mkF m 133 #[.val (.long x0), .second, .val (.long x1), .second, .val (.int x2), .val (.int x3), .val (.int ((x2 &&& (2147483647 : Int32)) % (9 : Int32))), .val (.int (x3 &&& (3 : Int32))), .val (.ref b1), .unset, .unset] [(.ref b1)]))
  refine own_of (fun _ kk => XS.bipush X12.here hx rfl (hb hby at_133) kk) ?_
  show own_Fin _ _ _ _ _ _ _ (T12.setTop (mkF m 135 #[.val (.long x0), .second, .val (.long x1), .second, .val (.int x2), .val (.int x3), .val (.int ((x2 &&& (2147483647 : Int32)) % (9 : Int32))), .val (.int (x3 &&& (3 : Int32))), .val (.ref b1), .unset, .unset] [(.int (11 : Int32)), (.ref b1)]))
  refine own_of (fun _ kk => XS.lloadN X12.here hx rfl (hb hby at_135) rfl kk) ?_
  show own_Fin _ _ _ _ _ _ _ (T12.setTop (mkF m 136 #[.val (.long x0), .second, .val (.long x1), .second, .val (.int x2), .val (.int x3), .val (.int ((x2 &&& (2147483647 : Int32)) % (9 : Int32))), .val (.int (x3 &&& (3 : Int32))), .val (.ref b1), .unset, .unset] [(.long x1), (.int (11 : Int32)), (.ref b1)]))
  refine own_of (fun _ kk => XS.bipush X12.here hx rfl (hb hby at_136) kk) ?_
  show own_Fin _ _ _ _ _ _ _ (T12.setTop (mkF m 138 #[.val (.long x0), .second, .val (.long x1), .second, .val (.int x2), .val (.int x3), .val (.int ((x2 &&& (2147483647 : Int32)) % (9 : Int32))), .val (.int (x3 &&& (3 : Int32))), .val (.ref b1), .unset, .unset] [(.int (24 : Int32)), (.long x1), (.int (11 : Int32)), (.ref b1)]))
  refine own_of (fun _ kk => XS.lushr X12.here hx rfl (hb hby at_138) rfl kk) ?_
  show own_Fin _ _ _ _ _ _ _ (T12.setTop (mkF m 139 #[.val (.long x0), .second, .val (.long x1), .second, .val (.int x2), .val (.int x3), .val (.int ((x2 &&& (2147483647 : Int32)) % (9 : Int32))), .val (.int (x3 &&& (3 : Int32))), .val (.ref b1), .unset, .unset] [(.long (own_lushr x1 (24 : Int32))), (.int (11 : Int32)), (.ref b1)]))
  refine own_of (fun _ kk => XS.l2i X12.here hx rfl (hb hby at_139) rfl kk) ?_
  show own_Fin _ _ _ _ _ _ _ (T12.setTop (mkF m 140 #[.val (.long x0), .second, .val (.long x1), .second, .val (.int x2), .val (.int x3), .val (.int ((x2 &&& (2147483647 : Int32)) % (9 : Int32))), .val (.int (x3 &&& (3 : Int32))), .val (.ref b1), .unset, .unset] [(.int (own_lushr x1 (24 : Int32)).toInt32), (.int (11 : Int32)), (.ref b1)]))
  refine own_of (fun _ kk => XS.i2b X12.here hx rfl (hb hby at_140) rfl kk) ?_
  show own_Fin _ _ _ _ _ _ _ (T12.setTop (mkF m 141 #[.val (.long x0), .second, .val (.long x1), .second, .val (.int x2), .val (.int x3), .val (.int ((x2 &&& (2147483647 : Int32)) % (9 : Int32))), .val (.int (x3 &&& (3 : Int32))), .val (.ref b1), .unset, .unset] [(.int (own_i2b (own_lushr x1 (24 : Int32)).toInt32)), (.int (11 : Int32)), (.ref b1)]))
  refine own_bastore X12 hx hZ e12 A12 N12 ge_b1 (i := 11) (by decide) (by decide) (hb hby at_141) ?_
  intro T13 h13 l13 X13 N13 e13 W13 A13
  replace A13 : own_Arf Z h13 b1 .byte 16 (fun j => if j = 11 then (.int (own_i2b (own_i2b (own_lushr x1 (24 : Int32)).toInt32))) else (fun j => if j = 10 then (.int (own_i2b (own_i2b (own_lushr x1 (16 : Int32)).toInt32))) else (fun j => if j = 9 then (.int (own_i2b (own_i2b (own_lushr x1 (8 : Int32)).toInt32))) else (fun j => if j = 8 then (.int (own_i2b (own_i2b x1.toInt32))) else (fun j => if j = 7 then (.int (own_i2b (own_i2b (own_lushr x0 (56 : Int32)).toInt32))) else (fun j => if j = 6 then (.int (own_i2b (own_i2b (own_lushr x0 (48 : Int32)).toInt32))) else (fun j => if j = 5 then (.int (own_i2b (own_i2b (own_lushr x0 (40 : Int32)).toInt32))) else (fun j => if j = 4 then (.int (own_i2b (own_i2b (own_lushr x0 (32 : Int32)).toInt32))) else (fun j => if j = 3 then (.int (own_i2b (own_i2b (own_lushr x0 (24 : Int32)).toInt32))) else (fun j => if j = 2 then (.int (own_i2b (own_i2b (own_lushr x0 (16 : Int32)).toInt32))) else (fun j => if j = 1 then (.int (own_i2b (own_i2b (own_lushr x0 (8 : Int32)).toInt32))) else (fun j => if j = 0 then (.int (own_i2b (own_i2b x0.toInt32))) else (fun _ => (.int (0 : Int32))) j) j) j) j) j) j) j) j) j) j) j) j) := A13
  have ZW13 : n0 ≤ h13.size := by rw [Wr.size W13]; exact ZW12
  show own_Fin _ _ _ _ _ _ _ (T13.setTop (mkF m 142 #[.val (.long x0), .second, .val (.long x1), .second, .val (.int x2), .val (.int x3), .val (.int ((x2 &&& (2147483647 : Int32)) % (9 : Int32))), .val (.int (x3 &&& (3 : Int32))), .val (.ref b1), .unset, .unset] []))
  refine own_of (fun _ kk => XS.aload X13.here hx rfl (hb hby at_142) rfl rfl kk) ?_
  show own_Fin _ _ _ _ _ _ _ (T13.setTop (mkF m 144 #[.val (.long x0), .second, .val (.long x1), .second, .val (.int x2), .val (.int x3), .val (.int ((x2 &&& (2147483647 : Int32)) % (9 : Int32))), .val (.int (x3 &&& (3 : Int32))), .val (.ref b1), .unset, .unset] [(.ref b1)]))
  refine own_of (fun _ kk => XS.bipush X13.here hx rfl (hb hby at_144) kk) ?_
  show own_Fin _ _ _ _ _ _ _ (T13.setTop (mkF m 146 #[.val (.long x0), .second, .val (.long x1), .second, .val (.int x2), .val (.int x3), .val (.int ((x2 &&& (2147483647 : Int32)) % (9 : Int32))), .val (.int (x3 &&& (3 : Int32))), .val (.ref b1), .unset, .unset] [(.int (12 : Int32)), (.ref b1)]))
  refine own_of (fun _ kk => XS.lloadN X13.here hx rfl (hb hby at_146) rfl kk) ?_
  show own_Fin _ _ _ _ _ _ _ (T13.setTop (mkF m 147 #[.val (.long x0), .second, .val (.long x1), .second, .val (.int x2), .val (.int x3), .val (.int ((x2 &&& (2147483647 : Int32)) % (9 : Int32))), .val (.int (x3 &&& (3 : Int32))), .val (.ref b1), .unset, .unset] [(.long x1), (.int (12 : Int32)), (.ref b1)]))
  refine own_of (fun _ kk => XS.bipush X13.here hx rfl (hb hby at_147) kk) ?_
  show own_Fin _ _ _ _ _ _ _ (T13.setTop (mkF m 149 #[.val (.long x0), .second, .val (.long x1), .second, .val (.int x2), .val (.int x3), .val (.int ((x2 &&& (2147483647 : Int32)) % (9 : Int32))), .val (.int (x3 &&& (3 : Int32))), .val (.ref b1), .unset, .unset] [(.int (32 : Int32)), (.long x1), (.int (12 : Int32)), (.ref b1)]))
  refine own_of (fun _ kk => XS.lushr X13.here hx rfl (hb hby at_149) rfl kk) ?_
  show own_Fin _ _ _ _ _ _ _ (T13.setTop (mkF m 150 #[.val (.long x0), .second, .val (.long x1), .second, .val (.int x2), .val (.int x3), .val (.int ((x2 &&& (2147483647 : Int32)) % (9 : Int32))), .val (.int (x3 &&& (3 : Int32))), .val (.ref b1), .unset, .unset] [(.long (own_lushr x1 (32 : Int32))), (.int (12 : Int32)), (.ref b1)]))
  refine own_of (fun _ kk => XS.l2i X13.here hx rfl (hb hby at_150) rfl kk) ?_
  show own_Fin _ _ _ _ _ _ _ (T13.setTop (mkF m 151 #[.val (.long x0), .second, .val (.long x1), .second, .val (.int x2), .val (.int x3), .val (.int ((x2 &&& (2147483647 : Int32)) % (9 : Int32))), .val (.int (x3 &&& (3 : Int32))), .val (.ref b1), .unset, .unset] [(.int (own_lushr x1 (32 : Int32)).toInt32), (.int (12 : Int32)), (.ref b1)]))
  refine own_of (fun _ kk => XS.i2b X13.here hx rfl (hb hby at_151) rfl kk) ?_
  show own_Fin _ _ _ _ _ _ _ (T13.setTop (mkF m 152 #[.val (.long x0), .second, .val (.long x1), .second, .val (.int x2), .val (.int x3), .val (.int ((x2 &&& (2147483647 : Int32)) % (9 : Int32))), .val (.int (x3 &&& (3 : Int32))), .val (.ref b1), .unset, .unset] [(.int (own_i2b (own_lushr x1 (32 : Int32)).toInt32)), (.int (12 : Int32)), (.ref b1)]))
  refine own_bastore X13 hx hZ e13 A13 N13 ge_b1 (i := 12) (by decide) (by decide) (hb hby at_152) ?_
  intro T14 h14 l14 X14 N14 e14 W14 A14
  replace A14 : own_Arf Z h14 b1 .byte 16 (fun j => if j = 12 then (.int (own_i2b (own_i2b (own_lushr x1 (32 : Int32)).toInt32))) else (fun j => if j = 11 then (.int (own_i2b (own_i2b (own_lushr x1 (24 : Int32)).toInt32))) else (fun j => if j = 10 then (.int (own_i2b (own_i2b (own_lushr x1 (16 : Int32)).toInt32))) else (fun j => if j = 9 then (.int (own_i2b (own_i2b (own_lushr x1 (8 : Int32)).toInt32))) else (fun j => if j = 8 then (.int (own_i2b (own_i2b x1.toInt32))) else (fun j => if j = 7 then (.int (own_i2b (own_i2b (own_lushr x0 (56 : Int32)).toInt32))) else (fun j => if j = 6 then (.int (own_i2b (own_i2b (own_lushr x0 (48 : Int32)).toInt32))) else (fun j => if j = 5 then (.int (own_i2b (own_i2b (own_lushr x0 (40 : Int32)).toInt32))) else (fun j => if j = 4 then (.int (own_i2b (own_i2b (own_lushr x0 (32 : Int32)).toInt32))) else (fun j => if j = 3 then (.int (own_i2b (own_i2b (own_lushr x0 (24 : Int32)).toInt32))) else (fun j => if j = 2 then (.int (own_i2b (own_i2b (own_lushr x0 (16 : Int32)).toInt32))) else (fun j => if j = 1 then (.int (own_i2b (own_i2b (own_lushr x0 (8 : Int32)).toInt32))) else (fun j => if j = 0 then (.int (own_i2b (own_i2b x0.toInt32))) else (fun _ => (.int (0 : Int32))) j) j) j) j) j) j) j) j) j) j) j) j) j) := A14
  have ZW14 : n0 ≤ h14.size := by rw [Wr.size W14]; exact ZW13
  show own_Fin _ _ _ _ _ _ _ (T14.setTop (mkF m 153 #[.val (.long x0), .second, .val (.long x1), .second, .val (.int x2), .val (.int x3), .val (.int ((x2 &&& (2147483647 : Int32)) % (9 : Int32))), .val (.int (x3 &&& (3 : Int32))), .val (.ref b1), .unset, .unset] []))
  refine own_of (fun _ kk => XS.aload X14.here hx rfl (hb hby at_153) rfl rfl kk) ?_
  show own_Fin _ _ _ _ _ _ _ (T14.setTop (mkF m 155 #[.val (.long x0), .second, .val (.long x1), .second, .val (.int x2), .val (.int x3), .val (.int ((x2 &&& (2147483647 : Int32)) % (9 : Int32))), .val (.int (x3 &&& (3 : Int32))), .val (.ref b1), .unset, .unset] [(.ref b1)]))
  refine own_of (fun _ kk => XS.bipush X14.here hx rfl (hb hby at_155) kk) ?_
  show own_Fin _ _ _ _ _ _ _ (T14.setTop (mkF m 157 #[.val (.long x0), .second, .val (.long x1), .second, .val (.int x2), .val (.int x3), .val (.int ((x2 &&& (2147483647 : Int32)) % (9 : Int32))), .val (.int (x3 &&& (3 : Int32))), .val (.ref b1), .unset, .unset] [(.int (13 : Int32)), (.ref b1)]))
  refine own_of (fun _ kk => XS.lloadN X14.here hx rfl (hb hby at_157) rfl kk) ?_
  show own_Fin _ _ _ _ _ _ _ (T14.setTop (mkF m 158 #[.val (.long x0), .second, .val (.long x1), .second, .val (.int x2), .val (.int x3), .val (.int ((x2 &&& (2147483647 : Int32)) % (9 : Int32))), .val (.int (x3 &&& (3 : Int32))), .val (.ref b1), .unset, .unset] [(.long x1), (.int (13 : Int32)), (.ref b1)]))
  refine own_of (fun _ kk => XS.bipush X14.here hx rfl (hb hby at_158) kk) ?_
  show own_Fin _ _ _ _ _ _ _ (T14.setTop (mkF m 160 #[.val (.long x0), .second, .val (.long x1), .second, .val (.int x2), .val (.int x3), .val (.int ((x2 &&& (2147483647 : Int32)) % (9 : Int32))), .val (.int (x3 &&& (3 : Int32))), .val (.ref b1), .unset, .unset] [(.int (40 : Int32)), (.long x1), (.int (13 : Int32)), (.ref b1)]))
  refine own_of (fun _ kk => XS.lushr X14.here hx rfl (hb hby at_160) rfl kk) ?_
  show own_Fin _ _ _ _ _ _ _ (T14.setTop (mkF m 161 #[.val (.long x0), .second, .val (.long x1), .second, .val (.int x2), .val (.int x3), .val (.int ((x2 &&& (2147483647 : Int32)) % (9 : Int32))), .val (.int (x3 &&& (3 : Int32))), .val (.ref b1), .unset, .unset] [(.long (own_lushr x1 (40 : Int32))), (.int (13 : Int32)), (.ref b1)]))
  refine own_of (fun _ kk => XS.l2i X14.here hx rfl (hb hby at_161) rfl kk) ?_
  show own_Fin _ _ _ _ _ _ _ (T14.setTop (mkF m 162 #[.val (.long x0), .second, .val (.long x1), .second, .val (.int x2), .val (.int x3), .val (.int ((x2 &&& (2147483647 : Int32)) % (9 : Int32))), .val (.int (x3 &&& (3 : Int32))), .val (.ref b1), .unset, .unset] [(.int (own_lushr x1 (40 : Int32)).toInt32), (.int (13 : Int32)), (.ref b1)]))
  refine own_of (fun _ kk => XS.i2b X14.here hx rfl (hb hby at_162) rfl kk) ?_
  show own_Fin _ _ _ _ _ _ _ (T14.setTop (mkF m 163 #[.val (.long x0), .second, .val (.long x1), .second, .val (.int x2), .val (.int x3), .val (.int ((x2 &&& (2147483647 : Int32)) % (9 : Int32))), .val (.int (x3 &&& (3 : Int32))), .val (.ref b1), .unset, .unset] [(.int (own_i2b (own_lushr x1 (40 : Int32)).toInt32)), (.int (13 : Int32)), (.ref b1)]))
  refine own_bastore X14 hx hZ e14 A14 N14 ge_b1 (i := 13) (by decide) (by decide) (hb hby at_163) ?_
  intro T15 h15 l15 X15 N15 e15 W15 A15
  replace A15 : own_Arf Z h15 b1 .byte 16 (fun j => if j = 13 then (.int (own_i2b (own_i2b (own_lushr x1 (40 : Int32)).toInt32))) else (fun j => if j = 12 then (.int (own_i2b (own_i2b (own_lushr x1 (32 : Int32)).toInt32))) else (fun j => if j = 11 then (.int (own_i2b (own_i2b (own_lushr x1 (24 : Int32)).toInt32))) else (fun j => if j = 10 then (.int (own_i2b (own_i2b (own_lushr x1 (16 : Int32)).toInt32))) else (fun j => if j = 9 then (.int (own_i2b (own_i2b (own_lushr x1 (8 : Int32)).toInt32))) else (fun j => if j = 8 then (.int (own_i2b (own_i2b x1.toInt32))) else (fun j => if j = 7 then (.int (own_i2b (own_i2b (own_lushr x0 (56 : Int32)).toInt32))) else (fun j => if j = 6 then (.int (own_i2b (own_i2b (own_lushr x0 (48 : Int32)).toInt32))) else (fun j => if j = 5 then (.int (own_i2b (own_i2b (own_lushr x0 (40 : Int32)).toInt32))) else (fun j => if j = 4 then (.int (own_i2b (own_i2b (own_lushr x0 (32 : Int32)).toInt32))) else (fun j => if j = 3 then (.int (own_i2b (own_i2b (own_lushr x0 (24 : Int32)).toInt32))) else (fun j => if j = 2 then (.int (own_i2b (own_i2b (own_lushr x0 (16 : Int32)).toInt32))) else (fun j => if j = 1 then (.int (own_i2b (own_i2b (own_lushr x0 (8 : Int32)).toInt32))) else (fun j => if j = 0 then (.int (own_i2b (own_i2b x0.toInt32))) else (fun _ => (.int (0 : Int32))) j) j) j) j) j) j) j) j) j) j) j) j) j) j) := A15
  have ZW15 : n0 ≤ h15.size := by rw [Wr.size W15]; exact ZW14
  show own_Fin _ _ _ _ _ _ _ (T15.setTop (mkF m 164 #[.val (.long x0), .second, .val (.long x1), .second, .val (.int x2), .val (.int x3), .val (.int ((x2 &&& (2147483647 : Int32)) % (9 : Int32))), .val (.int (x3 &&& (3 : Int32))), .val (.ref b1), .unset, .unset] []))
  refine own_of (fun _ kk => XS.aload X15.here hx rfl (hb hby at_164) rfl rfl kk) ?_
  show own_Fin _ _ _ _ _ _ _ (T15.setTop (mkF m 166 #[.val (.long x0), .second, .val (.long x1), .second, .val (.int x2), .val (.int x3), .val (.int ((x2 &&& (2147483647 : Int32)) % (9 : Int32))), .val (.int (x3 &&& (3 : Int32))), .val (.ref b1), .unset, .unset] [(.ref b1)]))
  refine own_of (fun _ kk => XS.bipush X15.here hx rfl (hb hby at_166) kk) ?_
  show own_Fin _ _ _ _ _ _ _ (T15.setTop (mkF m 168 #[.val (.long x0), .second, .val (.long x1), .second, .val (.int x2), .val (.int x3), .val (.int ((x2 &&& (2147483647 : Int32)) % (9 : Int32))), .val (.int (x3 &&& (3 : Int32))), .val (.ref b1), .unset, .unset] [(.int (14 : Int32)), (.ref b1)]))
  refine own_of (fun _ kk => XS.lloadN X15.here hx rfl (hb hby at_168) rfl kk) ?_
  show own_Fin _ _ _ _ _ _ _ (T15.setTop (mkF m 169 #[.val (.long x0), .second, .val (.long x1), .second, .val (.int x2), .val (.int x3), .val (.int ((x2 &&& (2147483647 : Int32)) % (9 : Int32))), .val (.int (x3 &&& (3 : Int32))), .val (.ref b1), .unset, .unset] [(.long x1), (.int (14 : Int32)), (.ref b1)]))
  refine own_of (fun _ kk => XS.bipush X15.here hx rfl (hb hby at_169) kk) ?_
  show own_Fin _ _ _ _ _ _ _ (T15.setTop (mkF m 171 #[.val (.long x0), .second, .val (.long x1), .second, .val (.int x2), .val (.int x3), .val (.int ((x2 &&& (2147483647 : Int32)) % (9 : Int32))), .val (.int (x3 &&& (3 : Int32))), .val (.ref b1), .unset, .unset] [(.int (48 : Int32)), (.long x1), (.int (14 : Int32)), (.ref b1)]))
  refine own_of (fun _ kk => XS.lushr X15.here hx rfl (hb hby at_171) rfl kk) ?_
  show own_Fin _ _ _ _ _ _ _ (T15.setTop (mkF m 172 #[.val (.long x0), .second, .val (.long x1), .second, .val (.int x2), .val (.int x3), .val (.int ((x2 &&& (2147483647 : Int32)) % (9 : Int32))), .val (.int (x3 &&& (3 : Int32))), .val (.ref b1), .unset, .unset] [(.long (own_lushr x1 (48 : Int32))), (.int (14 : Int32)), (.ref b1)]))
  refine own_of (fun _ kk => XS.l2i X15.here hx rfl (hb hby at_172) rfl kk) ?_
  show own_Fin _ _ _ _ _ _ _ (T15.setTop (mkF m 173 #[.val (.long x0), .second, .val (.long x1), .second, .val (.int x2), .val (.int x3), .val (.int ((x2 &&& (2147483647 : Int32)) % (9 : Int32))), .val (.int (x3 &&& (3 : Int32))), .val (.ref b1), .unset, .unset] [(.int (own_lushr x1 (48 : Int32)).toInt32), (.int (14 : Int32)), (.ref b1)]))
  refine own_of (fun _ kk => XS.i2b X15.here hx rfl (hb hby at_173) rfl kk) ?_
  show own_Fin _ _ _ _ _ _ _ (T15.setTop (mkF m 174 #[.val (.long x0), .second, .val (.long x1), .second, .val (.int x2), .val (.int x3), .val (.int ((x2 &&& (2147483647 : Int32)) % (9 : Int32))), .val (.int (x3 &&& (3 : Int32))), .val (.ref b1), .unset, .unset] [(.int (own_i2b (own_lushr x1 (48 : Int32)).toInt32)), (.int (14 : Int32)), (.ref b1)]))
  refine own_bastore X15 hx hZ e15 A15 N15 ge_b1 (i := 14) (by decide) (by decide) (hb hby at_174) ?_
  intro T16 h16 l16 X16 N16 e16 W16 A16
  replace A16 : own_Arf Z h16 b1 .byte 16 (fun j => if j = 14 then (.int (own_i2b (own_i2b (own_lushr x1 (48 : Int32)).toInt32))) else (fun j => if j = 13 then (.int (own_i2b (own_i2b (own_lushr x1 (40 : Int32)).toInt32))) else (fun j => if j = 12 then (.int (own_i2b (own_i2b (own_lushr x1 (32 : Int32)).toInt32))) else (fun j => if j = 11 then (.int (own_i2b (own_i2b (own_lushr x1 (24 : Int32)).toInt32))) else (fun j => if j = 10 then (.int (own_i2b (own_i2b (own_lushr x1 (16 : Int32)).toInt32))) else (fun j => if j = 9 then (.int (own_i2b (own_i2b (own_lushr x1 (8 : Int32)).toInt32))) else (fun j => if j = 8 then (.int (own_i2b (own_i2b x1.toInt32))) else (fun j => if j = 7 then (.int (own_i2b (own_i2b (own_lushr x0 (56 : Int32)).toInt32))) else (fun j => if j = 6 then (.int (own_i2b (own_i2b (own_lushr x0 (48 : Int32)).toInt32))) else (fun j => if j = 5 then (.int (own_i2b (own_i2b (own_lushr x0 (40 : Int32)).toInt32))) else (fun j => if j = 4 then (.int (own_i2b (own_i2b (own_lushr x0 (32 : Int32)).toInt32))) else (fun j => if j = 3 then (.int (own_i2b (own_i2b (own_lushr x0 (24 : Int32)).toInt32))) else (fun j => if j = 2 then (.int (own_i2b (own_i2b (own_lushr x0 (16 : Int32)).toInt32))) else (fun j => if j = 1 then (.int (own_i2b (own_i2b (own_lushr x0 (8 : Int32)).toInt32))) else (fun j => if j = 0 then (.int (own_i2b (own_i2b x0.toInt32))) else (fun _ => (.int (0 : Int32))) j) j) j) j) j) j) j) j) j) j) j) j) j) j) j) := A16
  have ZW16 : n0 ≤ h16.size := by rw [Wr.size W16]; exact ZW15
  show own_Fin _ _ _ _ _ _ _ (T16.setTop (mkF m 175 #[.val (.long x0), .second, .val (.long x1), .second, .val (.int x2), .val (.int x3), .val (.int ((x2 &&& (2147483647 : Int32)) % (9 : Int32))), .val (.int (x3 &&& (3 : Int32))), .val (.ref b1), .unset, .unset] []))
  refine own_of (fun _ kk => XS.aload X16.here hx rfl (hb hby at_175) rfl rfl kk) ?_
  show own_Fin _ _ _ _ _ _ _ (T16.setTop (mkF m 177 #[.val (.long x0), .second, .val (.long x1), .second, .val (.int x2), .val (.int x3), .val (.int ((x2 &&& (2147483647 : Int32)) % (9 : Int32))), .val (.int (x3 &&& (3 : Int32))), .val (.ref b1), .unset, .unset] [(.ref b1)]))
  refine own_of (fun _ kk => XS.bipush X16.here hx rfl (hb hby at_177) kk) ?_
  show own_Fin _ _ _ _ _ _ _ (T16.setTop (mkF m 179 #[.val (.long x0), .second, .val (.long x1), .second, .val (.int x2), .val (.int x3), .val (.int ((x2 &&& (2147483647 : Int32)) % (9 : Int32))), .val (.int (x3 &&& (3 : Int32))), .val (.ref b1), .unset, .unset] [(.int (15 : Int32)), (.ref b1)]))
  refine own_of (fun _ kk => XS.lloadN X16.here hx rfl (hb hby at_179) rfl kk) ?_
  show own_Fin _ _ _ _ _ _ _ (T16.setTop (mkF m 180 #[.val (.long x0), .second, .val (.long x1), .second, .val (.int x2), .val (.int x3), .val (.int ((x2 &&& (2147483647 : Int32)) % (9 : Int32))), .val (.int (x3 &&& (3 : Int32))), .val (.ref b1), .unset, .unset] [(.long x1), (.int (15 : Int32)), (.ref b1)]))
  refine own_of (fun _ kk => XS.bipush X16.here hx rfl (hb hby at_180) kk) ?_
  show own_Fin _ _ _ _ _ _ _ (T16.setTop (mkF m 182 #[.val (.long x0), .second, .val (.long x1), .second, .val (.int x2), .val (.int x3), .val (.int ((x2 &&& (2147483647 : Int32)) % (9 : Int32))), .val (.int (x3 &&& (3 : Int32))), .val (.ref b1), .unset, .unset] [(.int (56 : Int32)), (.long x1), (.int (15 : Int32)), (.ref b1)]))
  refine own_of (fun _ kk => XS.lushr X16.here hx rfl (hb hby at_182) rfl kk) ?_
  show own_Fin _ _ _ _ _ _ _ (T16.setTop (mkF m 183 #[.val (.long x0), .second, .val (.long x1), .second, .val (.int x2), .val (.int x3), .val (.int ((x2 &&& (2147483647 : Int32)) % (9 : Int32))), .val (.int (x3 &&& (3 : Int32))), .val (.ref b1), .unset, .unset] [(.long (own_lushr x1 (56 : Int32))), (.int (15 : Int32)), (.ref b1)]))
  refine own_of (fun _ kk => XS.l2i X16.here hx rfl (hb hby at_183) rfl kk) ?_
  show own_Fin _ _ _ _ _ _ _ (T16.setTop (mkF m 184 #[.val (.long x0), .second, .val (.long x1), .second, .val (.int x2), .val (.int x3), .val (.int ((x2 &&& (2147483647 : Int32)) % (9 : Int32))), .val (.int (x3 &&& (3 : Int32))), .val (.ref b1), .unset, .unset] [(.int (own_lushr x1 (56 : Int32)).toInt32), (.int (15 : Int32)), (.ref b1)]))
  refine own_of (fun _ kk => XS.i2b X16.here hx rfl (hb hby at_184) rfl kk) ?_
  show own_Fin _ _ _ _ _ _ _ (T16.setTop (mkF m 185 #[.val (.long x0), .second, .val (.long x1), .second, .val (.int x2), .val (.int x3), .val (.int ((x2 &&& (2147483647 : Int32)) % (9 : Int32))), .val (.int (x3 &&& (3 : Int32))), .val (.ref b1), .unset, .unset] [(.int (own_i2b (own_lushr x1 (56 : Int32)).toInt32)), (.int (15 : Int32)), (.ref b1)]))
  refine own_bastore X16 hx hZ e16 A16 N16 ge_b1 (i := 15) (by decide) (by decide) (hb hby at_185) ?_
  intro T17 h17 l17 X17 N17 e17 W17 A17
  replace A17 : own_Arf Z h17 b1 .byte 16 (fun j => if j = 15 then (.int (own_i2b (own_i2b (own_lushr x1 (56 : Int32)).toInt32))) else (fun j => if j = 14 then (.int (own_i2b (own_i2b (own_lushr x1 (48 : Int32)).toInt32))) else (fun j => if j = 13 then (.int (own_i2b (own_i2b (own_lushr x1 (40 : Int32)).toInt32))) else (fun j => if j = 12 then (.int (own_i2b (own_i2b (own_lushr x1 (32 : Int32)).toInt32))) else (fun j => if j = 11 then (.int (own_i2b (own_i2b (own_lushr x1 (24 : Int32)).toInt32))) else (fun j => if j = 10 then (.int (own_i2b (own_i2b (own_lushr x1 (16 : Int32)).toInt32))) else (fun j => if j = 9 then (.int (own_i2b (own_i2b (own_lushr x1 (8 : Int32)).toInt32))) else (fun j => if j = 8 then (.int (own_i2b (own_i2b x1.toInt32))) else (fun j => if j = 7 then (.int (own_i2b (own_i2b (own_lushr x0 (56 : Int32)).toInt32))) else (fun j => if j = 6 then (.int (own_i2b (own_i2b (own_lushr x0 (48 : Int32)).toInt32))) else (fun j => if j = 5 then (.int (own_i2b (own_i2b (own_lushr x0 (40 : Int32)).toInt32))) else (fun j => if j = 4 then (.int (own_i2b (own_i2b (own_lushr x0 (32 : Int32)).toInt32))) else (fun j => if j = 3 then (.int (own_i2b (own_i2b (own_lushr x0 (24 : Int32)).toInt32))) else (fun j => if j = 2 then (.int (own_i2b (own_i2b (own_lushr x0 (16 : Int32)).toInt32))) else (fun j => if j = 1 then (.int (own_i2b (own_i2b (own_lushr x0 (8 : Int32)).toInt32))) else (fun j => if j = 0 then (.int (own_i2b (own_i2b x0.toInt32))) else (fun _ => (.int (0 : Int32))) j) j) j) j) j) j) j) j) j) j) j) j) j) j) j) j) := A17
  have ZW17 : n0 ≤ h17.size := by rw [Wr.size W17]; exact ZW16
  show own_Fin _ _ _ _ _ _ _ (T17.setTop (mkF m 186 #[.val (.long x0), .second, .val (.long x1), .second, .val (.int x2), .val (.int x3), .val (.int ((x2 &&& (2147483647 : Int32)) % (9 : Int32))), .val (.int (x3 &&& (3 : Int32))), .val (.ref b1), .unset, .unset] []))
  obtain ⟨f0, Af⟩ := own_ex A17 (fun j hj => by rcases (show j = 0 ∨ j = 1 ∨ j = 2 ∨ j = 3 ∨ j = 4 ∨ j = 5 ∨ j = 6 ∨ j = 7 ∨ j = 8 ∨ j = 9 ∨ j = 10 ∨ j = 11 ∨ j = 12 ∨ j = 13 ∨ j = 14 ∨ j = 15 by omega) with rfl | rfl | rfl | rfl | rfl | rfl | rfl | rfl | rfl | rfl | rfl | rfl | rfl | rfl | rfl | rfl <;> exact ⟨_, rfl⟩)
  have G0 : own_Good f0 (x3 &&& (3 : Int32)).toInt.toNat ((x2 &&& (2147483647 : Int32)) % (9 : Int32)).toInt.toNat 0 := fun t ht => absurd ht (Nat.not_lt_zero t)
  refine own_of (fun _ kk => XS.aload X17.here hx rfl (hb hby at_186) rfl rfl kk) ?_
  show own_Fin _ _ _ _ _ _ _ (T17.setTop (mkF m 188 #[.val (.long x0), .second, .val (.long x1), .second, .val (.int x2), .val (.int x3), .val (.int ((x2 &&& (2147483647 : Int32)) % (9 : Int32))), .val (.int (x3 &&& (3 : Int32))), .val (.ref b1), .unset, .unset] [(.ref b1)]))
  refine own_of (fun _ kk => XS.iload X17.here hx rfl (hb hby at_188) rfl kk) ?_
  show own_Fin _ _ _ _ _ _ _ (T17.setTop (mkF m 190 #[.val (.long x0), .second, .val (.long x1), .second, .val (.int x2), .val (.int x3), .val (.int ((x2 &&& (2147483647 : Int32)) % (9 : Int32))), .val (.int (x3 &&& (3 : Int32))), .val (.ref b1), .unset, .unset] [(.int (x3 &&& (3 : Int32))), (.ref b1)]))
  refine own_of (fun _ kk => XS.iconst X17.here hx rfl (hb hby at_190) kk) ?_
  show own_Fin _ _ _ _ _ _ _ (T17.setTop (mkF m 191 #[.val (.long x0), .second, .val (.long x1), .second, .val (.int x2), .val (.int x3), .val (.int ((x2 &&& (2147483647 : Int32)) % (9 : Int32))), .val (.int (x3 &&& (3 : Int32))), .val (.ref b1), .unset, .unset] [(.int (0 : Int32)), (.int (x3 &&& (3 : Int32))), (.ref b1)]))
  refine own_of (fun _ kk => XS.iload X17.here hx rfl (hb hby at_191) rfl kk) ?_
  show own_Fin _ _ _ _ _ _ _ (T17.setTop (mkF m 193 #[.val (.long x0), .second, .val (.long x1), .second, .val (.int x2), .val (.int x3), .val (.int ((x2 &&& (2147483647 : Int32)) % (9 : Int32))), .val (.int (x3 &&& (3 : Int32))), .val (.ref b1), .unset, .unset] [(.int ((x2 &&& (2147483647 : Int32)) % (9 : Int32))), (.int (0 : Int32)), (.int (x3 &&& (3 : Int32))), (.ref b1)]))
  refine own_callS X17 hx hZ hown (hw _ (List.mem_of_getElem? (i := 2) rfl)) (hw _ (List.mem_of_getElem? (i := 3) rfl)) (hw _ (List.mem_of_getElem? (i := 4) rfl)) (hw _ (List.mem_of_getElem? (i := 5) rfl)) (by decide) e17 (argsL := [(.ref b1), (.int (x3 &&& (3 : Int32))), (.int (0 : Int32)), (.int ((x2 &&& (2147483647 : Int32)) % (9 : Int32)))]) (met1 l Z a0 hw b1 (x3 &&& (3 : Int32)) (0 : Int32) ((x2 &&& (2147483647 : Int32)) % (9 : Int32)) f0 (x3 &&& (3 : Int32)).toInt.toNat 0 h17 n0 ZW17 Af (own_at x3).1 (by decide) (by have := (own_at x3).2; omega) ge_b1) (W := 0) (by decide) (by decide) (by decide) (by decide) (by rw [hml]; rfl) pd_3 rfl (rest := []) rfl (Nat.le_of_eq rfl) (hb hby at_193) ?_
  intro v18 T18 h18 L18 X18 e18 q18
  obtain ⟨rfl, N18q, Z18, f18, A18, u18, v18, w18⟩ := q18
  have N18 := Fr.app N17 N18q
  show own_Fin _ _ _ _ _ _ _ (T18.setTop (mkF m 196 #[.val (.long x0), .second, .val (.long x1), .second, .val (.int x2), .val (.int x3), .val (.int ((x2 &&& (2147483647 : Int32)) % (9 : Int32))), .val (.int (x3 &&& (3 : Int32))), .val (.ref b1), .unset, .unset] []))
  have G18 := own_good G0 (q := (0 : Int32)) (by decide) (own_kr x2).1 u18 v18 w18
  refine own_of (fun _ kk => XS.aload X18.here hx rfl (hb hby at_196) rfl rfl kk) ?_
  show own_Fin _ _ _ _ _ _ _ (T18.setTop (mkF m 198 #[.val (.long x0), .second, .val (.long x1), .second, .val (.int x2), .val (.int x3), .val (.int ((x2 &&& (2147483647 : Int32)) % (9 : Int32))), .val (.int (x3 &&& (3 : Int32))), .val (.ref b1), .unset, .unset] [(.ref b1)]))
  refine own_of (fun _ kk => XS.iload X18.here hx rfl (hb hby at_198) rfl kk) ?_
  show own_Fin _ _ _ _ _ _ _ (T18.setTop (mkF m 200 #[.val (.long x0), .second, .val (.long x1), .second, .val (.int x2), .val (.int x3), .val (.int ((x2 &&& (2147483647 : Int32)) % (9 : Int32))), .val (.int (x3 &&& (3 : Int32))), .val (.ref b1), .unset, .unset] [(.int (x3 &&& (3 : Int32))), (.ref b1)]))
  refine own_of (fun _ kk => XS.iconst X18.here hx rfl (hb hby at_200) kk) ?_
  show own_Fin _ _ _ _ _ _ _ (T18.setTop (mkF m 201 #[.val (.long x0), .second, .val (.long x1), .second, .val (.int x2), .val (.int x3), .val (.int ((x2 &&& (2147483647 : Int32)) % (9 : Int32))), .val (.int (x3 &&& (3 : Int32))), .val (.ref b1), .unset, .unset] [(.int (1 : Int32)), (.int (x3 &&& (3 : Int32))), (.ref b1)]))
  refine own_of (fun _ kk => XS.iload X18.here hx rfl (hb hby at_201) rfl kk) ?_
  show own_Fin _ _ _ _ _ _ _ (T18.setTop (mkF m 203 #[.val (.long x0), .second, .val (.long x1), .second, .val (.int x2), .val (.int x3), .val (.int ((x2 &&& (2147483647 : Int32)) % (9 : Int32))), .val (.int (x3 &&& (3 : Int32))), .val (.ref b1), .unset, .unset] [(.int ((x2 &&& (2147483647 : Int32)) % (9 : Int32))), (.int (1 : Int32)), (.int (x3 &&& (3 : Int32))), (.ref b1)]))
  refine own_callS X18 hx hZ hown (hw _ (List.mem_of_getElem? (i := 2) rfl)) (hw _ (List.mem_of_getElem? (i := 3) rfl)) (hw _ (List.mem_of_getElem? (i := 4) rfl)) (hw _ (List.mem_of_getElem? (i := 5) rfl)) (by decide) e18 (argsL := [(.ref b1), (.int (x3 &&& (3 : Int32))), (.int (1 : Int32)), (.int ((x2 &&& (2147483647 : Int32)) % (9 : Int32)))]) (met1 l Z a0 hw b1 (x3 &&& (3 : Int32)) (1 : Int32) ((x2 &&& (2147483647 : Int32)) % (9 : Int32)) f18 (x3 &&& (3 : Int32)).toInt.toNat 1 h18 n0 Z18 A18 (own_at x3).1 (by decide) (by have := (own_at x3).2; omega) ge_b1) (W := 0) (by decide) (by decide) (by decide) (by decide) (by rw [hml]; rfl) pd_3 rfl (rest := []) rfl (Nat.le_of_eq rfl) (hb hby at_203) ?_
  intro v19 T19 h19 L19 X19 e19 q19
  obtain ⟨rfl, N19q, Z19, f19, A19, u19, v19, w19⟩ := q19
  have N19 := Fr.app N18 N19q
  show own_Fin _ _ _ _ _ _ _ (T19.setTop (mkF m 206 #[.val (.long x0), .second, .val (.long x1), .second, .val (.int x2), .val (.int x3), .val (.int ((x2 &&& (2147483647 : Int32)) % (9 : Int32))), .val (.int (x3 &&& (3 : Int32))), .val (.ref b1), .unset, .unset] []))
  have G19 := own_good G18 (q := (1 : Int32)) (by decide) (own_kr x2).1 u19 v19 w19
  refine own_of (fun _ kk => XS.aload X19.here hx rfl (hb hby at_206) rfl rfl kk) ?_
  show own_Fin _ _ _ _ _ _ _ (T19.setTop (mkF m 208 #[.val (.long x0), .second, .val (.long x1), .second, .val (.int x2), .val (.int x3), .val (.int ((x2 &&& (2147483647 : Int32)) % (9 : Int32))), .val (.int (x3 &&& (3 : Int32))), .val (.ref b1), .unset, .unset] [(.ref b1)]))
  refine own_of (fun _ kk => XS.iload X19.here hx rfl (hb hby at_208) rfl kk) ?_
  show own_Fin _ _ _ _ _ _ _ (T19.setTop (mkF m 210 #[.val (.long x0), .second, .val (.long x1), .second, .val (.int x2), .val (.int x3), .val (.int ((x2 &&& (2147483647 : Int32)) % (9 : Int32))), .val (.int (x3 &&& (3 : Int32))), .val (.ref b1), .unset, .unset] [(.int (x3 &&& (3 : Int32))), (.ref b1)]))
  refine own_of (fun _ kk => XS.iconst X19.here hx rfl (hb hby at_210) kk) ?_
  show own_Fin _ _ _ _ _ _ _ (T19.setTop (mkF m 211 #[.val (.long x0), .second, .val (.long x1), .second, .val (.int x2), .val (.int x3), .val (.int ((x2 &&& (2147483647 : Int32)) % (9 : Int32))), .val (.int (x3 &&& (3 : Int32))), .val (.ref b1), .unset, .unset] [(.int (2 : Int32)), (.int (x3 &&& (3 : Int32))), (.ref b1)]))
  refine own_of (fun _ kk => XS.iload X19.here hx rfl (hb hby at_211) rfl kk) ?_
  show own_Fin _ _ _ _ _ _ _ (T19.setTop (mkF m 213 #[.val (.long x0), .second, .val (.long x1), .second, .val (.int x2), .val (.int x3), .val (.int ((x2 &&& (2147483647 : Int32)) % (9 : Int32))), .val (.int (x3 &&& (3 : Int32))), .val (.ref b1), .unset, .unset] [(.int ((x2 &&& (2147483647 : Int32)) % (9 : Int32))), (.int (2 : Int32)), (.int (x3 &&& (3 : Int32))), (.ref b1)]))
  refine own_callS X19 hx hZ hown (hw _ (List.mem_of_getElem? (i := 2) rfl)) (hw _ (List.mem_of_getElem? (i := 3) rfl)) (hw _ (List.mem_of_getElem? (i := 4) rfl)) (hw _ (List.mem_of_getElem? (i := 5) rfl)) (by decide) e19 (argsL := [(.ref b1), (.int (x3 &&& (3 : Int32))), (.int (2 : Int32)), (.int ((x2 &&& (2147483647 : Int32)) % (9 : Int32)))]) (met1 l Z a0 hw b1 (x3 &&& (3 : Int32)) (2 : Int32) ((x2 &&& (2147483647 : Int32)) % (9 : Int32)) f19 (x3 &&& (3 : Int32)).toInt.toNat 2 h19 n0 Z19 A19 (own_at x3).1 (by decide) (by have := (own_at x3).2; omega) ge_b1) (W := 0) (by decide) (by decide) (by decide) (by decide) (by rw [hml]; rfl) pd_3 rfl (rest := []) rfl (Nat.le_of_eq rfl) (hb hby at_213) ?_
  intro v20 T20 h20 L20 X20 e20 q20
  obtain ⟨rfl, N20q, Z20, f20, A20, u20, v20, w20⟩ := q20
  have N20 := Fr.app N19 N20q
  show own_Fin _ _ _ _ _ _ _ (T20.setTop (mkF m 216 #[.val (.long x0), .second, .val (.long x1), .second, .val (.int x2), .val (.int x3), .val (.int ((x2 &&& (2147483647 : Int32)) % (9 : Int32))), .val (.int (x3 &&& (3 : Int32))), .val (.ref b1), .unset, .unset] []))
  have G20 := own_good G19 (q := (2 : Int32)) (by decide) (own_kr x2).1 u20 v20 w20
  refine own_of (fun _ kk => XS.aload X20.here hx rfl (hb hby at_216) rfl rfl kk) ?_
  show own_Fin _ _ _ _ _ _ _ (T20.setTop (mkF m 218 #[.val (.long x0), .second, .val (.long x1), .second, .val (.int x2), .val (.int x3), .val (.int ((x2 &&& (2147483647 : Int32)) % (9 : Int32))), .val (.int (x3 &&& (3 : Int32))), .val (.ref b1), .unset, .unset] [(.ref b1)]))
  refine own_of (fun _ kk => XS.iload X20.here hx rfl (hb hby at_218) rfl kk) ?_
  show own_Fin _ _ _ _ _ _ _ (T20.setTop (mkF m 220 #[.val (.long x0), .second, .val (.long x1), .second, .val (.int x2), .val (.int x3), .val (.int ((x2 &&& (2147483647 : Int32)) % (9 : Int32))), .val (.int (x3 &&& (3 : Int32))), .val (.ref b1), .unset, .unset] [(.int (x3 &&& (3 : Int32))), (.ref b1)]))
  refine own_of (fun _ kk => XS.iconst X20.here hx rfl (hb hby at_220) kk) ?_
  show own_Fin _ _ _ _ _ _ _ (T20.setTop (mkF m 221 #[.val (.long x0), .second, .val (.long x1), .second, .val (.int x2), .val (.int x3), .val (.int ((x2 &&& (2147483647 : Int32)) % (9 : Int32))), .val (.int (x3 &&& (3 : Int32))), .val (.ref b1), .unset, .unset] [(.int (3 : Int32)), (.int (x3 &&& (3 : Int32))), (.ref b1)]))
  refine own_of (fun _ kk => XS.iload X20.here hx rfl (hb hby at_221) rfl kk) ?_
  show own_Fin _ _ _ _ _ _ _ (T20.setTop (mkF m 223 #[.val (.long x0), .second, .val (.long x1), .second, .val (.int x2), .val (.int x3), .val (.int ((x2 &&& (2147483647 : Int32)) % (9 : Int32))), .val (.int (x3 &&& (3 : Int32))), .val (.ref b1), .unset, .unset] [(.int ((x2 &&& (2147483647 : Int32)) % (9 : Int32))), (.int (3 : Int32)), (.int (x3 &&& (3 : Int32))), (.ref b1)]))
  refine own_callS X20 hx hZ hown (hw _ (List.mem_of_getElem? (i := 2) rfl)) (hw _ (List.mem_of_getElem? (i := 3) rfl)) (hw _ (List.mem_of_getElem? (i := 4) rfl)) (hw _ (List.mem_of_getElem? (i := 5) rfl)) (by decide) e20 (argsL := [(.ref b1), (.int (x3 &&& (3 : Int32))), (.int (3 : Int32)), (.int ((x2 &&& (2147483647 : Int32)) % (9 : Int32)))]) (met1 l Z a0 hw b1 (x3 &&& (3 : Int32)) (3 : Int32) ((x2 &&& (2147483647 : Int32)) % (9 : Int32)) f20 (x3 &&& (3 : Int32)).toInt.toNat 3 h20 n0 Z20 A20 (own_at x3).1 (by decide) (by have := (own_at x3).2; omega) ge_b1) (W := 0) (by decide) (by decide) (by decide) (by decide) (by rw [hml]; rfl) pd_3 rfl (rest := []) rfl (Nat.le_of_eq rfl) (hb hby at_223) ?_
  intro v21 T21 h21 L21 X21 e21 q21
  obtain ⟨rfl, N21q, Z21, f21, A21, u21, v21, w21⟩ := q21
  have N21 := Fr.app N20 N21q
  show own_Fin _ _ _ _ _ _ _ (T21.setTop (mkF m 226 #[.val (.long x0), .second, .val (.long x1), .second, .val (.int x2), .val (.int x3), .val (.int ((x2 &&& (2147483647 : Int32)) % (9 : Int32))), .val (.int (x3 &&& (3 : Int32))), .val (.ref b1), .unset, .unset] []))
  have G21 := own_good G20 (q := (3 : Int32)) (by decide) (own_kr x2).1 u21 v21 w21
  refine own_of (fun _ kk => XS.aload X21.here hx rfl (hb hby at_226) rfl rfl kk) ?_
  show own_Fin _ _ _ _ _ _ _ (T21.setTop (mkF m 228 #[.val (.long x0), .second, .val (.long x1), .second, .val (.int x2), .val (.int x3), .val (.int ((x2 &&& (2147483647 : Int32)) % (9 : Int32))), .val (.int (x3 &&& (3 : Int32))), .val (.ref b1), .unset, .unset] [(.ref b1)]))
  refine own_of (fun _ kk => XS.iload X21.here hx rfl (hb hby at_228) rfl kk) ?_
  show own_Fin _ _ _ _ _ _ _ (T21.setTop (mkF m 230 #[.val (.long x0), .second, .val (.long x1), .second, .val (.int x2), .val (.int x3), .val (.int ((x2 &&& (2147483647 : Int32)) % (9 : Int32))), .val (.int (x3 &&& (3 : Int32))), .val (.ref b1), .unset, .unset] [(.int (x3 &&& (3 : Int32))), (.ref b1)]))
  refine own_of (fun _ kk => XS.iconst X21.here hx rfl (hb hby at_230) kk) ?_
  show own_Fin _ _ _ _ _ _ _ (T21.setTop (mkF m 231 #[.val (.long x0), .second, .val (.long x1), .second, .val (.int x2), .val (.int x3), .val (.int ((x2 &&& (2147483647 : Int32)) % (9 : Int32))), .val (.int (x3 &&& (3 : Int32))), .val (.ref b1), .unset, .unset] [(.int (4 : Int32)), (.int (x3 &&& (3 : Int32))), (.ref b1)]))
  refine own_of (fun _ kk => XS.iload X21.here hx rfl (hb hby at_231) rfl kk) ?_
  show own_Fin _ _ _ _ _ _ _ (T21.setTop (mkF m 233 #[.val (.long x0), .second, .val (.long x1), .second, .val (.int x2), .val (.int x3), .val (.int ((x2 &&& (2147483647 : Int32)) % (9 : Int32))), .val (.int (x3 &&& (3 : Int32))), .val (.ref b1), .unset, .unset] [(.int ((x2 &&& (2147483647 : Int32)) % (9 : Int32))), (.int (4 : Int32)), (.int (x3 &&& (3 : Int32))), (.ref b1)]))
  refine own_callS X21 hx hZ hown (hw _ (List.mem_of_getElem? (i := 2) rfl)) (hw _ (List.mem_of_getElem? (i := 3) rfl)) (hw _ (List.mem_of_getElem? (i := 4) rfl)) (hw _ (List.mem_of_getElem? (i := 5) rfl)) (by decide) e21 (argsL := [(.ref b1), (.int (x3 &&& (3 : Int32))), (.int (4 : Int32)), (.int ((x2 &&& (2147483647 : Int32)) % (9 : Int32)))]) (met1 l Z a0 hw b1 (x3 &&& (3 : Int32)) (4 : Int32) ((x2 &&& (2147483647 : Int32)) % (9 : Int32)) f21 (x3 &&& (3 : Int32)).toInt.toNat 4 h21 n0 Z21 A21 (own_at x3).1 (by decide) (by have := (own_at x3).2; omega) ge_b1) (W := 0) (by decide) (by decide) (by decide) (by decide) (by rw [hml]; rfl) pd_3 rfl (rest := []) rfl (Nat.le_of_eq rfl) (hb hby at_233) ?_
  intro v22 T22 h22 L22 X22 e22 q22
  obtain ⟨rfl, N22q, Z22, f22, A22, u22, v22, w22⟩ := q22
  have N22 := Fr.app N21 N22q
  show own_Fin _ _ _ _ _ _ _ (T22.setTop (mkF m 236 #[.val (.long x0), .second, .val (.long x1), .second, .val (.int x2), .val (.int x3), .val (.int ((x2 &&& (2147483647 : Int32)) % (9 : Int32))), .val (.int (x3 &&& (3 : Int32))), .val (.ref b1), .unset, .unset] []))
  have G22 := own_good G21 (q := (4 : Int32)) (by decide) (own_kr x2).1 u22 v22 w22
  refine own_of (fun _ kk => XS.aload X22.here hx rfl (hb hby at_236) rfl rfl kk) ?_
  show own_Fin _ _ _ _ _ _ _ (T22.setTop (mkF m 238 #[.val (.long x0), .second, .val (.long x1), .second, .val (.int x2), .val (.int x3), .val (.int ((x2 &&& (2147483647 : Int32)) % (9 : Int32))), .val (.int (x3 &&& (3 : Int32))), .val (.ref b1), .unset, .unset] [(.ref b1)]))
  refine own_of (fun _ kk => XS.iload X22.here hx rfl (hb hby at_238) rfl kk) ?_
  show own_Fin _ _ _ _ _ _ _ (T22.setTop (mkF m 240 #[.val (.long x0), .second, .val (.long x1), .second, .val (.int x2), .val (.int x3), .val (.int ((x2 &&& (2147483647 : Int32)) % (9 : Int32))), .val (.int (x3 &&& (3 : Int32))), .val (.ref b1), .unset, .unset] [(.int (x3 &&& (3 : Int32))), (.ref b1)]))
  refine own_of (fun _ kk => XS.iconst X22.here hx rfl (hb hby at_240) kk) ?_
  show own_Fin _ _ _ _ _ _ _ (T22.setTop (mkF m 241 #[.val (.long x0), .second, .val (.long x1), .second, .val (.int x2), .val (.int x3), .val (.int ((x2 &&& (2147483647 : Int32)) % (9 : Int32))), .val (.int (x3 &&& (3 : Int32))), .val (.ref b1), .unset, .unset] [(.int (5 : Int32)), (.int (x3 &&& (3 : Int32))), (.ref b1)]))
  refine own_of (fun _ kk => XS.iload X22.here hx rfl (hb hby at_241) rfl kk) ?_
  show own_Fin _ _ _ _ _ _ _ (T22.setTop (mkF m 243 #[.val (.long x0), .second, .val (.long x1), .second, .val (.int x2), .val (.int x3), .val (.int ((x2 &&& (2147483647 : Int32)) % (9 : Int32))), .val (.int (x3 &&& (3 : Int32))), .val (.ref b1), .unset, .unset] [(.int ((x2 &&& (2147483647 : Int32)) % (9 : Int32))), (.int (5 : Int32)), (.int (x3 &&& (3 : Int32))), (.ref b1)]))
  refine own_callS X22 hx hZ hown (hw _ (List.mem_of_getElem? (i := 2) rfl)) (hw _ (List.mem_of_getElem? (i := 3) rfl)) (hw _ (List.mem_of_getElem? (i := 4) rfl)) (hw _ (List.mem_of_getElem? (i := 5) rfl)) (by decide) e22 (argsL := [(.ref b1), (.int (x3 &&& (3 : Int32))), (.int (5 : Int32)), (.int ((x2 &&& (2147483647 : Int32)) % (9 : Int32)))]) (met1 l Z a0 hw b1 (x3 &&& (3 : Int32)) (5 : Int32) ((x2 &&& (2147483647 : Int32)) % (9 : Int32)) f22 (x3 &&& (3 : Int32)).toInt.toNat 5 h22 n0 Z22 A22 (own_at x3).1 (by decide) (by have := (own_at x3).2; omega) ge_b1) (W := 0) (by decide) (by decide) (by decide) (by decide) (by rw [hml]; rfl) pd_3 rfl (rest := []) rfl (Nat.le_of_eq rfl) (hb hby at_243) ?_
  intro v23 T23 h23 L23 X23 e23 q23
  obtain ⟨rfl, N23q, Z23, f23, A23, u23, v23, w23⟩ := q23
  have N23 := Fr.app N22 N23q
  show own_Fin _ _ _ _ _ _ _ (T23.setTop (mkF m 246 #[.val (.long x0), .second, .val (.long x1), .second, .val (.int x2), .val (.int x3), .val (.int ((x2 &&& (2147483647 : Int32)) % (9 : Int32))), .val (.int (x3 &&& (3 : Int32))), .val (.ref b1), .unset, .unset] []))
  have G23 := own_good G22 (q := (5 : Int32)) (by decide) (own_kr x2).1 u23 v23 w23
  refine own_of (fun _ kk => XS.aload X23.here hx rfl (hb hby at_246) rfl rfl kk) ?_
  show own_Fin _ _ _ _ _ _ _ (T23.setTop (mkF m 248 #[.val (.long x0), .second, .val (.long x1), .second, .val (.int x2), .val (.int x3), .val (.int ((x2 &&& (2147483647 : Int32)) % (9 : Int32))), .val (.int (x3 &&& (3 : Int32))), .val (.ref b1), .unset, .unset] [(.ref b1)]))
  refine own_of (fun _ kk => XS.iload X23.here hx rfl (hb hby at_248) rfl kk) ?_
  show own_Fin _ _ _ _ _ _ _ (T23.setTop (mkF m 250 #[.val (.long x0), .second, .val (.long x1), .second, .val (.int x2), .val (.int x3), .val (.int ((x2 &&& (2147483647 : Int32)) % (9 : Int32))), .val (.int (x3 &&& (3 : Int32))), .val (.ref b1), .unset, .unset] [(.int (x3 &&& (3 : Int32))), (.ref b1)]))
  refine own_of (fun _ kk => XS.bipush X23.here hx rfl (hb hby at_250) kk) ?_
  show own_Fin _ _ _ _ _ _ _ (T23.setTop (mkF m 252 #[.val (.long x0), .second, .val (.long x1), .second, .val (.int x2), .val (.int x3), .val (.int ((x2 &&& (2147483647 : Int32)) % (9 : Int32))), .val (.int (x3 &&& (3 : Int32))), .val (.ref b1), .unset, .unset] [(.int (6 : Int32)), (.int (x3 &&& (3 : Int32))), (.ref b1)]))
  refine own_of (fun _ kk => XS.iload X23.here hx rfl (hb hby at_252) rfl kk) ?_
  show own_Fin _ _ _ _ _ _ _ (T23.setTop (mkF m 254 #[.val (.long x0), .second, .val (.long x1), .second, .val (.int x2), .val (.int x3), .val (.int ((x2 &&& (2147483647 : Int32)) % (9 : Int32))), .val (.int (x3 &&& (3 : Int32))), .val (.ref b1), .unset, .unset] [(.int ((x2 &&& (2147483647 : Int32)) % (9 : Int32))), (.int (6 : Int32)), (.int (x3 &&& (3 : Int32))), (.ref b1)]))
  refine own_callS X23 hx hZ hown (hw _ (List.mem_of_getElem? (i := 2) rfl)) (hw _ (List.mem_of_getElem? (i := 3) rfl)) (hw _ (List.mem_of_getElem? (i := 4) rfl)) (hw _ (List.mem_of_getElem? (i := 5) rfl)) (by decide) e23 (argsL := [(.ref b1), (.int (x3 &&& (3 : Int32))), (.int (6 : Int32)), (.int ((x2 &&& (2147483647 : Int32)) % (9 : Int32)))]) (met1 l Z a0 hw b1 (x3 &&& (3 : Int32)) (6 : Int32) ((x2 &&& (2147483647 : Int32)) % (9 : Int32)) f23 (x3 &&& (3 : Int32)).toInt.toNat 6 h23 n0 Z23 A23 (own_at x3).1 (by decide) (by have := (own_at x3).2; omega) ge_b1) (W := 0) (by decide) (by decide) (by decide) (by decide) (by rw [hml]; rfl) pd_3 rfl (rest := []) rfl (Nat.le_of_eq rfl) (hb hby at_254) ?_
  intro v24 T24 h24 L24 X24 e24 q24
  obtain ⟨rfl, N24q, Z24, f24, A24, u24, v24, w24⟩ := q24
  have N24 := Fr.app N23 N24q
  show own_Fin _ _ _ _ _ _ _ (T24.setTop (mkF m 257 #[.val (.long x0), .second, .val (.long x1), .second, .val (.int x2), .val (.int x3), .val (.int ((x2 &&& (2147483647 : Int32)) % (9 : Int32))), .val (.int (x3 &&& (3 : Int32))), .val (.ref b1), .unset, .unset] []))
  have G24 := own_good G23 (q := (6 : Int32)) (by decide) (own_kr x2).1 u24 v24 w24
  refine own_of (fun _ kk => XS.aload X24.here hx rfl (hb hby at_257) rfl rfl kk) ?_
  show own_Fin _ _ _ _ _ _ _ (T24.setTop (mkF m 259 #[.val (.long x0), .second, .val (.long x1), .second, .val (.int x2), .val (.int x3), .val (.int ((x2 &&& (2147483647 : Int32)) % (9 : Int32))), .val (.int (x3 &&& (3 : Int32))), .val (.ref b1), .unset, .unset] [(.ref b1)]))
  refine own_of (fun _ kk => XS.iload X24.here hx rfl (hb hby at_259) rfl kk) ?_
  show own_Fin _ _ _ _ _ _ _ (T24.setTop (mkF m 261 #[.val (.long x0), .second, .val (.long x1), .second, .val (.int x2), .val (.int x3), .val (.int ((x2 &&& (2147483647 : Int32)) % (9 : Int32))), .val (.int (x3 &&& (3 : Int32))), .val (.ref b1), .unset, .unset] [(.int (x3 &&& (3 : Int32))), (.ref b1)]))
  refine own_of (fun _ kk => XS.bipush X24.here hx rfl (hb hby at_261) kk) ?_
  show own_Fin _ _ _ _ _ _ _ (T24.setTop (mkF m 263 #[.val (.long x0), .second, .val (.long x1), .second, .val (.int x2), .val (.int x3), .val (.int ((x2 &&& (2147483647 : Int32)) % (9 : Int32))), .val (.int (x3 &&& (3 : Int32))), .val (.ref b1), .unset, .unset] [(.int (7 : Int32)), (.int (x3 &&& (3 : Int32))), (.ref b1)]))
  refine own_of (fun _ kk => XS.iload X24.here hx rfl (hb hby at_263) rfl kk) ?_
  show own_Fin _ _ _ _ _ _ _ (T24.setTop (mkF m 265 #[.val (.long x0), .second, .val (.long x1), .second, .val (.int x2), .val (.int x3), .val (.int ((x2 &&& (2147483647 : Int32)) % (9 : Int32))), .val (.int (x3 &&& (3 : Int32))), .val (.ref b1), .unset, .unset] [(.int ((x2 &&& (2147483647 : Int32)) % (9 : Int32))), (.int (7 : Int32)), (.int (x3 &&& (3 : Int32))), (.ref b1)]))
  refine own_callS X24 hx hZ hown (hw _ (List.mem_of_getElem? (i := 2) rfl)) (hw _ (List.mem_of_getElem? (i := 3) rfl)) (hw _ (List.mem_of_getElem? (i := 4) rfl)) (hw _ (List.mem_of_getElem? (i := 5) rfl)) (by decide) e24 (argsL := [(.ref b1), (.int (x3 &&& (3 : Int32))), (.int (7 : Int32)), (.int ((x2 &&& (2147483647 : Int32)) % (9 : Int32)))]) (met1 l Z a0 hw b1 (x3 &&& (3 : Int32)) (7 : Int32) ((x2 &&& (2147483647 : Int32)) % (9 : Int32)) f24 (x3 &&& (3 : Int32)).toInt.toNat 7 h24 n0 Z24 A24 (own_at x3).1 (by decide) (by have := (own_at x3).2; omega) ge_b1) (W := 0) (by decide) (by decide) (by decide) (by decide) (by rw [hml]; rfl) pd_3 rfl (rest := []) rfl (Nat.le_of_eq rfl) (hb hby at_265) ?_
  intro v25 T25 h25 L25 X25 e25 q25
  obtain ⟨rfl, N25q, Z25, f25, A25, u25, v25, w25⟩ := q25
  have N25 := Fr.app N24 N25q
  show own_Fin _ _ _ _ _ _ _ (T25.setTop (mkF m 268 #[.val (.long x0), .second, .val (.long x1), .second, .val (.int x2), .val (.int x3), .val (.int ((x2 &&& (2147483647 : Int32)) % (9 : Int32))), .val (.int (x3 &&& (3 : Int32))), .val (.ref b1), .unset, .unset] []))
  have G25 := own_good G24 (q := (7 : Int32)) (by decide) (own_kr x2).1 u25 v25 w25
  refine own_of (fun _ kk => XS.aload X25.here hx rfl (hb hby at_268) rfl rfl kk) ?_
  show own_Fin _ _ _ _ _ _ _ (T25.setTop (mkF m 270 #[.val (.long x0), .second, .val (.long x1), .second, .val (.int x2), .val (.int x3), .val (.int ((x2 &&& (2147483647 : Int32)) % (9 : Int32))), .val (.int (x3 &&& (3 : Int32))), .val (.ref b1), .unset, .unset] [(.ref b1)]))
  refine own_of (fun _ kk => XS.iload X25.here hx rfl (hb hby at_270) rfl kk) ?_
  show own_Fin _ _ _ _ _ _ _ (T25.setTop (mkF m 272 #[.val (.long x0), .second, .val (.long x1), .second, .val (.int x2), .val (.int x3), .val (.int ((x2 &&& (2147483647 : Int32)) % (9 : Int32))), .val (.int (x3 &&& (3 : Int32))), .val (.ref b1), .unset, .unset] [(.int (x3 &&& (3 : Int32))), (.ref b1)]))
  refine own_of (fun _ kk => XS.bipush X25.here hx rfl (hb hby at_272) kk) ?_
  show own_Fin _ _ _ _ _ _ _ (T25.setTop (mkF m 274 #[.val (.long x0), .second, .val (.long x1), .second, .val (.int x2), .val (.int x3), .val (.int ((x2 &&& (2147483647 : Int32)) % (9 : Int32))), .val (.int (x3 &&& (3 : Int32))), .val (.ref b1), .unset, .unset] [(.int (8 : Int32)), (.int (x3 &&& (3 : Int32))), (.ref b1)]))
  refine own_of (fun _ kk => XS.iload X25.here hx rfl (hb hby at_274) rfl kk) ?_
  show own_Fin _ _ _ _ _ _ _ (T25.setTop (mkF m 276 #[.val (.long x0), .second, .val (.long x1), .second, .val (.int x2), .val (.int x3), .val (.int ((x2 &&& (2147483647 : Int32)) % (9 : Int32))), .val (.int (x3 &&& (3 : Int32))), .val (.ref b1), .unset, .unset] [(.int ((x2 &&& (2147483647 : Int32)) % (9 : Int32))), (.int (8 : Int32)), (.int (x3 &&& (3 : Int32))), (.ref b1)]))
  refine own_callS X25 hx hZ hown (hw _ (List.mem_of_getElem? (i := 2) rfl)) (hw _ (List.mem_of_getElem? (i := 3) rfl)) (hw _ (List.mem_of_getElem? (i := 4) rfl)) (hw _ (List.mem_of_getElem? (i := 5) rfl)) (by decide) e25 (argsL := [(.ref b1), (.int (x3 &&& (3 : Int32))), (.int (8 : Int32)), (.int ((x2 &&& (2147483647 : Int32)) % (9 : Int32)))]) (met1 l Z a0 hw b1 (x3 &&& (3 : Int32)) (8 : Int32) ((x2 &&& (2147483647 : Int32)) % (9 : Int32)) f25 (x3 &&& (3 : Int32)).toInt.toNat 8 h25 n0 Z25 A25 (own_at x3).1 (by decide) (by have := (own_at x3).2; omega) ge_b1) (W := 0) (by decide) (by decide) (by decide) (by decide) (by rw [hml]; rfl) pd_3 rfl (rest := []) rfl (Nat.le_of_eq rfl) (hb hby at_276) ?_
  intro v26 T26 h26 L26 X26 e26 q26
  obtain ⟨rfl, N26q, Z26, f26, A26, u26, v26, w26⟩ := q26
  have N26 := Fr.app N25 N26q
  show own_Fin _ _ _ _ _ _ _ (T26.setTop (mkF m 279 #[.val (.long x0), .second, .val (.long x1), .second, .val (.int x2), .val (.int x3), .val (.int ((x2 &&& (2147483647 : Int32)) % (9 : Int32))), .val (.int (x3 &&& (3 : Int32))), .val (.ref b1), .unset, .unset] []))
  have G26 := own_good G25 (q := (8 : Int32)) (by decide) (own_kr x2).1 u26 v26 w26
  refine own_of (fun _ kk => XS.aload X26.here hx rfl (hb hby at_279) rfl rfl kk) ?_
  show own_Fin _ _ _ _ _ _ _ (T26.setTop (mkF m 281 #[.val (.long x0), .second, .val (.long x1), .second, .val (.int x2), .val (.int x3), .val (.int ((x2 &&& (2147483647 : Int32)) % (9 : Int32))), .val (.int (x3 &&& (3 : Int32))), .val (.ref b1), .unset, .unset] [(.ref b1)]))
  refine own_of (fun _ kk => XS.iload X26.here hx rfl (hb hby at_281) rfl kk) ?_
  show own_Fin _ _ _ _ _ _ _ (T26.setTop (mkF m 283 #[.val (.long x0), .second, .val (.long x1), .second, .val (.int x2), .val (.int x3), .val (.int ((x2 &&& (2147483647 : Int32)) % (9 : Int32))), .val (.int (x3 &&& (3 : Int32))), .val (.ref b1), .unset, .unset] [(.int (x3 &&& (3 : Int32))), (.ref b1)]))
  refine own_of (fun _ kk => XS.iconst X26.here hx rfl (hb hby at_283) kk) ?_
  show own_Fin _ _ _ _ _ _ _ (T26.setTop (mkF m 284 #[.val (.long x0), .second, .val (.long x1), .second, .val (.int x2), .val (.int x3), .val (.int ((x2 &&& (2147483647 : Int32)) % (9 : Int32))), .val (.int (x3 &&& (3 : Int32))), .val (.ref b1), .unset, .unset] [(.int (0 : Int32)), (.int (x3 &&& (3 : Int32))), (.ref b1)]))
  refine own_of (fun _ kk => XS.iload X26.here hx rfl (hb hby at_284) rfl kk) ?_
  show own_Fin _ _ _ _ _ _ _ (T26.setTop (mkF m 286 #[.val (.long x0), .second, .val (.long x1), .second, .val (.int x2), .val (.int x3), .val (.int ((x2 &&& (2147483647 : Int32)) % (9 : Int32))), .val (.int (x3 &&& (3 : Int32))), .val (.ref b1), .unset, .unset] [(.int ((x2 &&& (2147483647 : Int32)) % (9 : Int32))), (.int (0 : Int32)), (.int (x3 &&& (3 : Int32))), (.ref b1)]))
  refine own_callS X26 hx hZ hown (hw _ (List.mem_of_getElem? (i := 6) rfl)) (hw _ (List.mem_of_getElem? (i := 7) rfl)) (hw _ (List.mem_of_getElem? (i := 4) rfl)) (hw _ (List.mem_of_getElem? (i := 8) rfl)) (by decide) e26 (argsL := [(.ref b1), (.int (x3 &&& (3 : Int32))), (.int (0 : Int32)), (.int ((x2 &&& (2147483647 : Int32)) % (9 : Int32)))]) (met2 l Z a0 hw b1 (x3 &&& (3 : Int32)) (0 : Int32) ((x2 &&& (2147483647 : Int32)) % (9 : Int32)) f26 (x3 &&& (3 : Int32)).toInt.toNat 0 h26 n0 Z26 A26 (own_at x3).1 (by decide) (by have := (own_at x3).2; omega)) (W := 0) (by decide) (by decide) (by decide) (by decide) (by rw [hml]; rfl) pd_2 rfl (rest := []) rfl (Nat.le_of_eq rfl) (hb hby at_286) ?_
  intro v27 T27 h27 L27 X27 e27 q27
  obtain ⟨rfl, qh27, rfl⟩ := q27
  rw [qh27] at e27
  have N27 := Fr.app N26 (Fr.nil n0)
  show own_Fin _ _ _ _ _ _ _ (T27.setTop (mkF m 289 #[.val (.long x0), .second, .val (.long x1), .second, .val (.int x2), .val (.int x3), .val (.int ((x2 &&& (2147483647 : Int32)) % (9 : Int32))), .val (.int (x3 &&& (3 : Int32))), .val (.ref b1), .unset, .unset] [(.long (own_tm (f26 ((x3 &&& (3 : Int32)).toInt.toNat + 0)) (0 : Int32) ((x2 &&& (2147483647 : Int32)) % (9 : Int32))))]))
  refine own_of (fun _ kk => XS.aload X27.here hx rfl (hb hby at_289) rfl rfl kk) ?_
  show own_Fin _ _ _ _ _ _ _ (T27.setTop (mkF m 291 #[.val (.long x0), .second, .val (.long x1), .second, .val (.int x2), .val (.int x3), .val (.int ((x2 &&& (2147483647 : Int32)) % (9 : Int32))), .val (.int (x3 &&& (3 : Int32))), .val (.ref b1), .unset, .unset] [(.ref b1), (.long (own_tm (f26 ((x3 &&& (3 : Int32)).toInt.toNat + 0)) (0 : Int32) ((x2 &&& (2147483647 : Int32)) % (9 : Int32))))]))
  refine own_of (fun _ kk => XS.iload X27.here hx rfl (hb hby at_291) rfl kk) ?_
  show own_Fin _ _ _ _ _ _ _ (T27.setTop (mkF m 293 #[.val (.long x0), .second, .val (.long x1), .second, .val (.int x2), .val (.int x3), .val (.int ((x2 &&& (2147483647 : Int32)) % (9 : Int32))), .val (.int (x3 &&& (3 : Int32))), .val (.ref b1), .unset, .unset] [(.int (x3 &&& (3 : Int32))), (.ref b1), (.long (own_tm (f26 ((x3 &&& (3 : Int32)).toInt.toNat + 0)) (0 : Int32) ((x2 &&& (2147483647 : Int32)) % (9 : Int32))))]))
  refine own_of (fun _ kk => XS.iconst X27.here hx rfl (hb hby at_293) kk) ?_
  show own_Fin _ _ _ _ _ _ _ (T27.setTop (mkF m 294 #[.val (.long x0), .second, .val (.long x1), .second, .val (.int x2), .val (.int x3), .val (.int ((x2 &&& (2147483647 : Int32)) % (9 : Int32))), .val (.int (x3 &&& (3 : Int32))), .val (.ref b1), .unset, .unset] [(.int (1 : Int32)), (.int (x3 &&& (3 : Int32))), (.ref b1), (.long (own_tm (f26 ((x3 &&& (3 : Int32)).toInt.toNat + 0)) (0 : Int32) ((x2 &&& (2147483647 : Int32)) % (9 : Int32))))]))
  refine own_of (fun _ kk => XS.iload X27.here hx rfl (hb hby at_294) rfl kk) ?_
  show own_Fin _ _ _ _ _ _ _ (T27.setTop (mkF m 296 #[.val (.long x0), .second, .val (.long x1), .second, .val (.int x2), .val (.int x3), .val (.int ((x2 &&& (2147483647 : Int32)) % (9 : Int32))), .val (.int (x3 &&& (3 : Int32))), .val (.ref b1), .unset, .unset] [(.int ((x2 &&& (2147483647 : Int32)) % (9 : Int32))), (.int (1 : Int32)), (.int (x3 &&& (3 : Int32))), (.ref b1), (.long (own_tm (f26 ((x3 &&& (3 : Int32)).toInt.toNat + 0)) (0 : Int32) ((x2 &&& (2147483647 : Int32)) % (9 : Int32))))]))
  refine own_callS X27 hx hZ hown (hw _ (List.mem_of_getElem? (i := 6) rfl)) (hw _ (List.mem_of_getElem? (i := 7) rfl)) (hw _ (List.mem_of_getElem? (i := 4) rfl)) (hw _ (List.mem_of_getElem? (i := 8) rfl)) (by decide) e27 (argsL := [(.ref b1), (.int (x3 &&& (3 : Int32))), (.int (1 : Int32)), (.int ((x2 &&& (2147483647 : Int32)) % (9 : Int32)))]) (met2 l Z a0 hw b1 (x3 &&& (3 : Int32)) (1 : Int32) ((x2 &&& (2147483647 : Int32)) % (9 : Int32)) f26 (x3 &&& (3 : Int32)).toInt.toNat 1 h26 n0 Z26 A26 (own_at x3).1 (by decide) (by have := (own_at x3).2; omega)) (W := 2) (by decide) (by decide) (by decide) (by decide) (by rw [hml]; rfl) pd_2 rfl (rest := [(.long (own_tm (f26 ((x3 &&& (3 : Int32)).toInt.toNat + 0)) (0 : Int32) ((x2 &&& (2147483647 : Int32)) % (9 : Int32))))]) rfl (Nat.le_of_eq rfl) (hb hby at_296) ?_
  intro v28 T28 h28 L28 X28 e28 q28
  obtain ⟨rfl, qh28, rfl⟩ := q28
  rw [qh28] at e28
  have N28 := Fr.app N27 (Fr.nil n0)
  show own_Fin _ _ _ _ _ _ _ (T28.setTop (mkF m 299 #[.val (.long x0), .second, .val (.long x1), .second, .val (.int x2), .val (.int x3), .val (.int ((x2 &&& (2147483647 : Int32)) % (9 : Int32))), .val (.int (x3 &&& (3 : Int32))), .val (.ref b1), .unset, .unset] [(.long (own_tm (f26 ((x3 &&& (3 : Int32)).toInt.toNat + 1)) (1 : Int32) ((x2 &&& (2147483647 : Int32)) % (9 : Int32)))), (.long (own_tm (f26 ((x3 &&& (3 : Int32)).toInt.toNat + 0)) (0 : Int32) ((x2 &&& (2147483647 : Int32)) % (9 : Int32))))]))
  refine own_of (fun _ kk => XS.ladd X28.here hx rfl (hb hby at_299) rfl kk) ?_
  show own_Fin _ _ _ _ _ _ _ (T28.setTop (mkF m 300 #[.val (.long x0), .second, .val (.long x1), .second, .val (.int x2), .val (.int x3), .val (.int ((x2 &&& (2147483647 : Int32)) % (9 : Int32))), .val (.int (x3 &&& (3 : Int32))), .val (.ref b1), .unset, .unset] [(.long ((own_tm (f26 ((x3 &&& (3 : Int32)).toInt.toNat + 0)) (0 : Int32) ((x2 &&& (2147483647 : Int32)) % (9 : Int32))) + (own_tm (f26 ((x3 &&& (3 : Int32)).toInt.toNat + 1)) (1 : Int32) ((x2 &&& (2147483647 : Int32)) % (9 : Int32)))))]))
  refine own_of (fun _ kk => XS.aload X28.here hx rfl (hb hby at_300) rfl rfl kk) ?_
  show own_Fin _ _ _ _ _ _ _ (T28.setTop (mkF m 302 #[.val (.long x0), .second, .val (.long x1), .second, .val (.int x2), .val (.int x3), .val (.int ((x2 &&& (2147483647 : Int32)) % (9 : Int32))), .val (.int (x3 &&& (3 : Int32))), .val (.ref b1), .unset, .unset] [(.ref b1), (.long ((own_tm (f26 ((x3 &&& (3 : Int32)).toInt.toNat + 0)) (0 : Int32) ((x2 &&& (2147483647 : Int32)) % (9 : Int32))) + (own_tm (f26 ((x3 &&& (3 : Int32)).toInt.toNat + 1)) (1 : Int32) ((x2 &&& (2147483647 : Int32)) % (9 : Int32)))))]))
  refine own_of (fun _ kk => XS.iload X28.here hx rfl (hb hby at_302) rfl kk) ?_
  show own_Fin _ _ _ _ _ _ _ (T28.setTop (mkF m 304 #[.val (.long x0), .second, .val (.long x1), .second, .val (.int x2), .val (.int x3), .val (.int ((x2 &&& (2147483647 : Int32)) % (9 : Int32))), .val (.int (x3 &&& (3 : Int32))), .val (.ref b1), .unset, .unset] [(.int (x3 &&& (3 : Int32))), (.ref b1), (.long ((own_tm (f26 ((x3 &&& (3 : Int32)).toInt.toNat + 0)) (0 : Int32) ((x2 &&& (2147483647 : Int32)) % (9 : Int32))) + (own_tm (f26 ((x3 &&& (3 : Int32)).toInt.toNat + 1)) (1 : Int32) ((x2 &&& (2147483647 : Int32)) % (9 : Int32)))))]))
  refine own_of (fun _ kk => XS.iconst X28.here hx rfl (hb hby at_304) kk) ?_
  show own_Fin _ _ _ _ _ _ _ (T28.setTop (mkF m 305 #[.val (.long x0), .second, .val (.long x1), .second, .val (.int x2), .val (.int x3), .val (.int ((x2 &&& (2147483647 : Int32)) % (9 : Int32))), .val (.int (x3 &&& (3 : Int32))), .val (.ref b1), .unset, .unset] [(.int (2 : Int32)), (.int (x3 &&& (3 : Int32))), (.ref b1), (.long ((own_tm (f26 ((x3 &&& (3 : Int32)).toInt.toNat + 0)) (0 : Int32) ((x2 &&& (2147483647 : Int32)) % (9 : Int32))) + (own_tm (f26 ((x3 &&& (3 : Int32)).toInt.toNat + 1)) (1 : Int32) ((x2 &&& (2147483647 : Int32)) % (9 : Int32)))))]))
  refine own_of (fun _ kk => XS.iload X28.here hx rfl (hb hby at_305) rfl kk) ?_
  show own_Fin _ _ _ _ _ _ _ (T28.setTop (mkF m 307 #[.val (.long x0), .second, .val (.long x1), .second, .val (.int x2), .val (.int x3), .val (.int ((x2 &&& (2147483647 : Int32)) % (9 : Int32))), .val (.int (x3 &&& (3 : Int32))), .val (.ref b1), .unset, .unset] [(.int ((x2 &&& (2147483647 : Int32)) % (9 : Int32))), (.int (2 : Int32)), (.int (x3 &&& (3 : Int32))), (.ref b1), (.long ((own_tm (f26 ((x3 &&& (3 : Int32)).toInt.toNat + 0)) (0 : Int32) ((x2 &&& (2147483647 : Int32)) % (9 : Int32))) + (own_tm (f26 ((x3 &&& (3 : Int32)).toInt.toNat + 1)) (1 : Int32) ((x2 &&& (2147483647 : Int32)) % (9 : Int32)))))]))
  refine own_callS X28 hx hZ hown (hw _ (List.mem_of_getElem? (i := 6) rfl)) (hw _ (List.mem_of_getElem? (i := 7) rfl)) (hw _ (List.mem_of_getElem? (i := 4) rfl)) (hw _ (List.mem_of_getElem? (i := 8) rfl)) (by decide) e28 (argsL := [(.ref b1), (.int (x3 &&& (3 : Int32))), (.int (2 : Int32)), (.int ((x2 &&& (2147483647 : Int32)) % (9 : Int32)))]) (met2 l Z a0 hw b1 (x3 &&& (3 : Int32)) (2 : Int32) ((x2 &&& (2147483647 : Int32)) % (9 : Int32)) f26 (x3 &&& (3 : Int32)).toInt.toNat 2 h26 n0 Z26 A26 (own_at x3).1 (by decide) (by have := (own_at x3).2; omega)) (W := 2) (by decide) (by decide) (by decide) (by decide) (by rw [hml]; rfl) pd_2 rfl (rest := [(.long ((own_tm (f26 ((x3 &&& (3 : Int32)).toInt.toNat + 0)) (0 : Int32) ((x2 &&& (2147483647 : Int32)) % (9 : Int32))) + (own_tm (f26 ((x3 &&& (3 : Int32)).toInt.toNat + 1)) (1 : Int32) ((x2 &&& (2147483647 : Int32)) % (9 : Int32)))))]) rfl (Nat.le_of_eq rfl) (hb hby at_307) ?_
  intro v29 T29 h29 L29 X29 e29 q29
  obtain ⟨rfl, qh29, rfl⟩ := q29
  rw [qh29] at e29
  have N29 := Fr.app N28 (Fr.nil n0)
  show own_Fin _ _ _ _ _ _ _ (T29.setTop (mkF m 310 #[.val (.long x0), .second, .val (.long x1), .second, .val (.int x2), .val (.int x3), .val (.int ((x2 &&& (2147483647 : Int32)) % (9 : Int32))), .val (.int (x3 &&& (3 : Int32))), .val (.ref b1), .unset, .unset] [(.long (own_tm (f26 ((x3 &&& (3 : Int32)).toInt.toNat + 2)) (2 : Int32) ((x2 &&& (2147483647 : Int32)) % (9 : Int32)))), (.long ((own_tm (f26 ((x3 &&& (3 : Int32)).toInt.toNat + 0)) (0 : Int32) ((x2 &&& (2147483647 : Int32)) % (9 : Int32))) + (own_tm (f26 ((x3 &&& (3 : Int32)).toInt.toNat + 1)) (1 : Int32) ((x2 &&& (2147483647 : Int32)) % (9 : Int32)))))]))
  refine own_of (fun _ kk => XS.ladd X29.here hx rfl (hb hby at_310) rfl kk) ?_
  show own_Fin _ _ _ _ _ _ _ (T29.setTop (mkF m 311 #[.val (.long x0), .second, .val (.long x1), .second, .val (.int x2), .val (.int x3), .val (.int ((x2 &&& (2147483647 : Int32)) % (9 : Int32))), .val (.int (x3 &&& (3 : Int32))), .val (.ref b1), .unset, .unset] [(.long (((own_tm (f26 ((x3 &&& (3 : Int32)).toInt.toNat + 0)) (0 : Int32) ((x2 &&& (2147483647 : Int32)) % (9 : Int32))) + (own_tm (f26 ((x3 &&& (3 : Int32)).toInt.toNat + 1)) (1 : Int32) ((x2 &&& (2147483647 : Int32)) % (9 : Int32)))) + (own_tm (f26 ((x3 &&& (3 : Int32)).toInt.toNat + 2)) (2 : Int32) ((x2 &&& (2147483647 : Int32)) % (9 : Int32)))))]))
  refine own_of (fun _ kk => XS.aload X29.here hx rfl (hb hby at_311) rfl rfl kk) ?_
  show own_Fin _ _ _ _ _ _ _ (T29.setTop (mkF m 313 #[.val (.long x0), .second, .val (.long x1), .second, .val (.int x2), .val (.int x3), .val (.int ((x2 &&& (2147483647 : Int32)) % (9 : Int32))), .val (.int (x3 &&& (3 : Int32))), .val (.ref b1), .unset, .unset] [(.ref b1), (.long (((own_tm (f26 ((x3 &&& (3 : Int32)).toInt.toNat + 0)) (0 : Int32) ((x2 &&& (2147483647 : Int32)) % (9 : Int32))) + (own_tm (f26 ((x3 &&& (3 : Int32)).toInt.toNat + 1)) (1 : Int32) ((x2 &&& (2147483647 : Int32)) % (9 : Int32)))) + (own_tm (f26 ((x3 &&& (3 : Int32)).toInt.toNat + 2)) (2 : Int32) ((x2 &&& (2147483647 : Int32)) % (9 : Int32)))))]))
  refine own_of (fun _ kk => XS.iload X29.here hx rfl (hb hby at_313) rfl kk) ?_
  show own_Fin _ _ _ _ _ _ _ (T29.setTop (mkF m 315 #[.val (.long x0), .second, .val (.long x1), .second, .val (.int x2), .val (.int x3), .val (.int ((x2 &&& (2147483647 : Int32)) % (9 : Int32))), .val (.int (x3 &&& (3 : Int32))), .val (.ref b1), .unset, .unset] [(.int (x3 &&& (3 : Int32))), (.ref b1), (.long (((own_tm (f26 ((x3 &&& (3 : Int32)).toInt.toNat + 0)) (0 : Int32) ((x2 &&& (2147483647 : Int32)) % (9 : Int32))) + (own_tm (f26 ((x3 &&& (3 : Int32)).toInt.toNat + 1)) (1 : Int32) ((x2 &&& (2147483647 : Int32)) % (9 : Int32)))) + (own_tm (f26 ((x3 &&& (3 : Int32)).toInt.toNat + 2)) (2 : Int32) ((x2 &&& (2147483647 : Int32)) % (9 : Int32)))))]))
  refine own_of (fun _ kk => XS.iconst X29.here hx rfl (hb hby at_315) kk) ?_
  show own_Fin _ _ _ _ _ _ _ (T29.setTop (mkF m 316 #[.val (.long x0), .second, .val (.long x1), .second, .val (.int x2), .val (.int x3), .val (.int ((x2 &&& (2147483647 : Int32)) % (9 : Int32))), .val (.int (x3 &&& (3 : Int32))), .val (.ref b1), .unset, .unset] [(.int (3 : Int32)), (.int (x3 &&& (3 : Int32))), (.ref b1), (.long (((own_tm (f26 ((x3 &&& (3 : Int32)).toInt.toNat + 0)) (0 : Int32) ((x2 &&& (2147483647 : Int32)) % (9 : Int32))) + (own_tm (f26 ((x3 &&& (3 : Int32)).toInt.toNat + 1)) (1 : Int32) ((x2 &&& (2147483647 : Int32)) % (9 : Int32)))) + (own_tm (f26 ((x3 &&& (3 : Int32)).toInt.toNat + 2)) (2 : Int32) ((x2 &&& (2147483647 : Int32)) % (9 : Int32)))))]))
  refine own_of (fun _ kk => XS.iload X29.here hx rfl (hb hby at_316) rfl kk) ?_
  show own_Fin _ _ _ _ _ _ _ (T29.setTop (mkF m 318 #[.val (.long x0), .second, .val (.long x1), .second, .val (.int x2), .val (.int x3), .val (.int ((x2 &&& (2147483647 : Int32)) % (9 : Int32))), .val (.int (x3 &&& (3 : Int32))), .val (.ref b1), .unset, .unset] [(.int ((x2 &&& (2147483647 : Int32)) % (9 : Int32))), (.int (3 : Int32)), (.int (x3 &&& (3 : Int32))), (.ref b1), (.long (((own_tm (f26 ((x3 &&& (3 : Int32)).toInt.toNat + 0)) (0 : Int32) ((x2 &&& (2147483647 : Int32)) % (9 : Int32))) + (own_tm (f26 ((x3 &&& (3 : Int32)).toInt.toNat + 1)) (1 : Int32) ((x2 &&& (2147483647 : Int32)) % (9 : Int32)))) + (own_tm (f26 ((x3 &&& (3 : Int32)).toInt.toNat + 2)) (2 : Int32) ((x2 &&& (2147483647 : Int32)) % (9 : Int32)))))]))
  refine own_callS X29 hx hZ hown (hw _ (List.mem_of_getElem? (i := 6) rfl)) (hw _ (List.mem_of_getElem? (i := 7) rfl)) (hw _ (List.mem_of_getElem? (i := 4) rfl)) (hw _ (List.mem_of_getElem? (i := 8) rfl)) (by decide) e29 (argsL := [(.ref b1), (.int (x3 &&& (3 : Int32))), (.int (3 : Int32)), (.int ((x2 &&& (2147483647 : Int32)) % (9 : Int32)))]) (met2 l Z a0 hw b1 (x3 &&& (3 : Int32)) (3 : Int32) ((x2 &&& (2147483647 : Int32)) % (9 : Int32)) f26 (x3 &&& (3 : Int32)).toInt.toNat 3 h26 n0 Z26 A26 (own_at x3).1 (by decide) (by have := (own_at x3).2; omega)) (W := 2) (by decide) (by decide) (by decide) (by decide) (by rw [hml]; rfl) pd_2 rfl (rest := [(.long (((own_tm (f26 ((x3 &&& (3 : Int32)).toInt.toNat + 0)) (0 : Int32) ((x2 &&& (2147483647 : Int32)) % (9 : Int32))) + (own_tm (f26 ((x3 &&& (3 : Int32)).toInt.toNat + 1)) (1 : Int32) ((x2 &&& (2147483647 : Int32)) % (9 : Int32)))) + (own_tm (f26 ((x3 &&& (3 : Int32)).toInt.toNat + 2)) (2 : Int32) ((x2 &&& (2147483647 : Int32)) % (9 : Int32)))))]) rfl (Nat.le_of_eq rfl) (hb hby at_318) ?_
  intro v30 T30 h30 L30 X30 e30 q30
  obtain ⟨rfl, qh30, rfl⟩ := q30
  rw [qh30] at e30
  have N30 := Fr.app N29 (Fr.nil n0)
  show own_Fin _ _ _ _ _ _ _ (T30.setTop (mkF m 321 #[.val (.long x0), .second, .val (.long x1), .second, .val (.int x2), .val (.int x3), .val (.int ((x2 &&& (2147483647 : Int32)) % (9 : Int32))), .val (.int (x3 &&& (3 : Int32))), .val (.ref b1), .unset, .unset] [(.long (own_tm (f26 ((x3 &&& (3 : Int32)).toInt.toNat + 3)) (3 : Int32) ((x2 &&& (2147483647 : Int32)) % (9 : Int32)))), (.long (((own_tm (f26 ((x3 &&& (3 : Int32)).toInt.toNat + 0)) (0 : Int32) ((x2 &&& (2147483647 : Int32)) % (9 : Int32))) + (own_tm (f26 ((x3 &&& (3 : Int32)).toInt.toNat + 1)) (1 : Int32) ((x2 &&& (2147483647 : Int32)) % (9 : Int32)))) + (own_tm (f26 ((x3 &&& (3 : Int32)).toInt.toNat + 2)) (2 : Int32) ((x2 &&& (2147483647 : Int32)) % (9 : Int32)))))]))
  refine own_of (fun _ kk => XS.ladd X30.here hx rfl (hb hby at_321) rfl kk) ?_
  show own_Fin _ _ _ _ _ _ _ (T30.setTop (mkF m 322 #[.val (.long x0), .second, .val (.long x1), .second, .val (.int x2), .val (.int x3), .val (.int ((x2 &&& (2147483647 : Int32)) % (9 : Int32))), .val (.int (x3 &&& (3 : Int32))), .val (.ref b1), .unset, .unset] [(.long ((((own_tm (f26 ((x3 &&& (3 : Int32)).toInt.toNat + 0)) (0 : Int32) ((x2 &&& (2147483647 : Int32)) % (9 : Int32))) + (own_tm (f26 ((x3 &&& (3 : Int32)).toInt.toNat + 1)) (1 : Int32) ((x2 &&& (2147483647 : Int32)) % (9 : Int32)))) + (own_tm (f26 ((x3 &&& (3 : Int32)).toInt.toNat + 2)) (2 : Int32) ((x2 &&& (2147483647 : Int32)) % (9 : Int32)))) + (own_tm (f26 ((x3 &&& (3 : Int32)).toInt.toNat + 3)) (3 : Int32) ((x2 &&& (2147483647 : Int32)) % (9 : Int32)))))]))
  refine own_of (fun _ kk => XS.aload X30.here hx rfl (hb hby at_322) rfl rfl kk) ?_
  show own_Fin _ _ _ _ _ _ _ (T30.setTop (mkF m 324 #[.val (.long x0), .second, .val (.long x1), .second, .val (.int x2), .val (.int x3), .val (.int ((x2 &&& (2147483647 : Int32)) % (9 : Int32))), .val (.int (x3 &&& (3 : Int32))), .val (.ref b1), .unset, .unset] [(.ref b1), (.long ((((own_tm (f26 ((x3 &&& (3 : Int32)).toInt.toNat + 0)) (0 : Int32) ((x2 &&& (2147483647 : Int32)) % (9 : Int32))) + (own_tm (f26 ((x3 &&& (3 : Int32)).toInt.toNat + 1)) (1 : Int32) ((x2 &&& (2147483647 : Int32)) % (9 : Int32)))) + (own_tm (f26 ((x3 &&& (3 : Int32)).toInt.toNat + 2)) (2 : Int32) ((x2 &&& (2147483647 : Int32)) % (9 : Int32)))) + (own_tm (f26 ((x3 &&& (3 : Int32)).toInt.toNat + 3)) (3 : Int32) ((x2 &&& (2147483647 : Int32)) % (9 : Int32)))))]))
  refine own_of (fun _ kk => XS.iload X30.here hx rfl (hb hby at_324) rfl kk) ?_
  show own_Fin _ _ _ _ _ _ _ (T30.setTop (mkF m 326 #[.val (.long x0), .second, .val (.long x1), .second, .val (.int x2), .val (.int x3), .val (.int ((x2 &&& (2147483647 : Int32)) % (9 : Int32))), .val (.int (x3 &&& (3 : Int32))), .val (.ref b1), .unset, .unset] [(.int (x3 &&& (3 : Int32))), (.ref b1), (.long ((((own_tm (f26 ((x3 &&& (3 : Int32)).toInt.toNat + 0)) (0 : Int32) ((x2 &&& (2147483647 : Int32)) % (9 : Int32))) + (own_tm (f26 ((x3 &&& (3 : Int32)).toInt.toNat + 1)) (1 : Int32) ((x2 &&& (2147483647 : Int32)) % (9 : Int32)))) + (own_tm (f26 ((x3 &&& (3 : Int32)).toInt.toNat + 2)) (2 : Int32) ((x2 &&& (2147483647 : Int32)) % (9 : Int32)))) + (own_tm (f26 ((x3 &&& (3 : Int32)).toInt.toNat + 3)) (3 : Int32) ((x2 &&& (2147483647 : Int32)) % (9 : Int32)))))]))
  refine own_of (fun _ kk => XS.iconst X30.here hx rfl (hb hby at_326) kk) ?_
  show own_Fin _ _ _ _ _ _ _ (T30.setTop (mkF m 327 #[.val (.long x0), .second, .val (.long x1), .second, .val (.int x2), .val (.int x3), .val (.int ((x2 &&& (2147483647 : Int32)) % (9 : Int32))), .val (.int (x3 &&& (3 : Int32))), .val (.ref b1), .unset, .unset] [(.int (4 : Int32)), (.int (x3 &&& (3 : Int32))), (.ref b1), (.long ((((own_tm (f26 ((x3 &&& (3 : Int32)).toInt.toNat + 0)) (0 : Int32) ((x2 &&& (2147483647 : Int32)) % (9 : Int32))) + (own_tm (f26 ((x3 &&& (3 : Int32)).toInt.toNat + 1)) (1 : Int32) ((x2 &&& (2147483647 : Int32)) % (9 : Int32)))) + (own_tm (f26 ((x3 &&& (3 : Int32)).toInt.toNat + 2)) (2 : Int32) ((x2 &&& (2147483647 : Int32)) % (9 : Int32)))) + (own_tm (f26 ((x3 &&& (3 : Int32)).toInt.toNat + 3)) (3 : Int32) ((x2 &&& (2147483647 : Int32)) % (9 : Int32)))))]))
  refine own_of (fun _ kk => XS.iload X30.here hx rfl (hb hby at_327) rfl kk) ?_
  show own_Fin _ _ _ _ _ _ _ (T30.setTop (mkF m 329 #[.val (.long x0), .second, .val (.long x1), .second, .val (.int x2), .val (.int x3), .val (.int ((x2 &&& (2147483647 : Int32)) % (9 : Int32))), .val (.int (x3 &&& (3 : Int32))), .val (.ref b1), .unset, .unset] [(.int ((x2 &&& (2147483647 : Int32)) % (9 : Int32))), (.int (4 : Int32)), (.int (x3 &&& (3 : Int32))), (.ref b1), (.long ((((own_tm (f26 ((x3 &&& (3 : Int32)).toInt.toNat + 0)) (0 : Int32) ((x2 &&& (2147483647 : Int32)) % (9 : Int32))) + (own_tm (f26 ((x3 &&& (3 : Int32)).toInt.toNat + 1)) (1 : Int32) ((x2 &&& (2147483647 : Int32)) % (9 : Int32)))) + (own_tm (f26 ((x3 &&& (3 : Int32)).toInt.toNat + 2)) (2 : Int32) ((x2 &&& (2147483647 : Int32)) % (9 : Int32)))) + (own_tm (f26 ((x3 &&& (3 : Int32)).toInt.toNat + 3)) (3 : Int32) ((x2 &&& (2147483647 : Int32)) % (9 : Int32)))))]))
  refine own_callS X30 hx hZ hown (hw _ (List.mem_of_getElem? (i := 6) rfl)) (hw _ (List.mem_of_getElem? (i := 7) rfl)) (hw _ (List.mem_of_getElem? (i := 4) rfl)) (hw _ (List.mem_of_getElem? (i := 8) rfl)) (by decide) e30 (argsL := [(.ref b1), (.int (x3 &&& (3 : Int32))), (.int (4 : Int32)), (.int ((x2 &&& (2147483647 : Int32)) % (9 : Int32)))]) (met2 l Z a0 hw b1 (x3 &&& (3 : Int32)) (4 : Int32) ((x2 &&& (2147483647 : Int32)) % (9 : Int32)) f26 (x3 &&& (3 : Int32)).toInt.toNat 4 h26 n0 Z26 A26 (own_at x3).1 (by decide) (by have := (own_at x3).2; omega)) (W := 2) (by decide) (by decide) (by decide) (by decide) (by rw [hml]; rfl) pd_2 rfl (rest := [(.long ((((own_tm (f26 ((x3 &&& (3 : Int32)).toInt.toNat + 0)) (0 : Int32) ((x2 &&& (2147483647 : Int32)) % (9 : Int32))) + (own_tm (f26 ((x3 &&& (3 : Int32)).toInt.toNat + 1)) (1 : Int32) ((x2 &&& (2147483647 : Int32)) % (9 : Int32)))) + (own_tm (f26 ((x3 &&& (3 : Int32)).toInt.toNat + 2)) (2 : Int32) ((x2 &&& (2147483647 : Int32)) % (9 : Int32)))) + (own_tm (f26 ((x3 &&& (3 : Int32)).toInt.toNat + 3)) (3 : Int32) ((x2 &&& (2147483647 : Int32)) % (9 : Int32)))))]) rfl (Nat.le_of_eq rfl) (hb hby at_329) ?_
  intro v31 T31 h31 L31 X31 e31 q31
  obtain ⟨rfl, qh31, rfl⟩ := q31
  rw [qh31] at e31
  have N31 := Fr.app N30 (Fr.nil n0)
  show own_Fin _ _ _ _ _ _ _ (T31.setTop (mkF m 332 #[.val (.long x0), .second, .val (.long x1), .second, .val (.int x2), .val (.int x3), .val (.int ((x2 &&& (2147483647 : Int32)) % (9 : Int32))), .val (.int (x3 &&& (3 : Int32))), .val (.ref b1), .unset, .unset] [(.long (own_tm (f26 ((x3 &&& (3 : Int32)).toInt.toNat + 4)) (4 : Int32) ((x2 &&& (2147483647 : Int32)) % (9 : Int32)))), (.long ((((own_tm (f26 ((x3 &&& (3 : Int32)).toInt.toNat + 0)) (0 : Int32) ((x2 &&& (2147483647 : Int32)) % (9 : Int32))) + (own_tm (f26 ((x3 &&& (3 : Int32)).toInt.toNat + 1)) (1 : Int32) ((x2 &&& (2147483647 : Int32)) % (9 : Int32)))) + (own_tm (f26 ((x3 &&& (3 : Int32)).toInt.toNat + 2)) (2 : Int32) ((x2 &&& (2147483647 : Int32)) % (9 : Int32)))) + (own_tm (f26 ((x3 &&& (3 : Int32)).toInt.toNat + 3)) (3 : Int32) ((x2 &&& (2147483647 : Int32)) % (9 : Int32)))))]))
  refine own_of (fun _ kk => XS.ladd X31.here hx rfl (hb hby at_332) rfl kk) ?_
  show own_Fin _ _ _ _ _ _ _ (T31.setTop (mkF m 333 #[.val (.long x0), .second, .val (.long x1), .second, .val (.int x2), .val (.int x3), .val (.int ((x2 &&& (2147483647 : Int32)) % (9 : Int32))), .val (.int (x3 &&& (3 : Int32))), .val (.ref b1), .unset, .unset] [(.long (((((own_tm (f26 ((x3 &&& (3 : Int32)).toInt.toNat + 0)) (0 : Int32) ((x2 &&& (2147483647 : Int32)) % (9 : Int32))) + (own_tm (f26 ((x3 &&& (3 : Int32)).toInt.toNat + 1)) (1 : Int32) ((x2 &&& (2147483647 : Int32)) % (9 : Int32)))) + (own_tm (f26 ((x3 &&& (3 : Int32)).toInt.toNat + 2)) (2 : Int32) ((x2 &&& (2147483647 : Int32)) % (9 : Int32)))) + (own_tm (f26 ((x3 &&& (3 : Int32)).toInt.toNat + 3)) (3 : Int32) ((x2 &&& (2147483647 : Int32)) % (9 : Int32)))) + (own_tm (f26 ((x3 &&& (3 : Int32)).toInt.toNat + 4)) (4 : Int32) ((x2 &&& (2147483647 : Int32)) % (9 : Int32)))))]))
  refine own_of (fun _ kk => XS.aload X31.here hx rfl (hb hby at_333) rfl rfl kk) ?_
  show own_Fin _ _ _ _ _ _ _ (T31.setTop (mkF m 335 #[.val (.long x0), .second, .val (.long x1), .second, .val (.int x2), .val (.int x3), .val (.int ((x2 &&& (2147483647 : Int32)) % (9 : Int32))), .val (.int (x3 &&& (3 : Int32))), .val (.ref b1), .unset, .unset] [(.ref b1), (.long (((((own_tm (f26 ((x3 &&& (3 : Int32)).toInt.toNat + 0)) (0 : Int32) ((x2 &&& (2147483647 : Int32)) % (9 : Int32))) + (own_tm (f26 ((x3 &&& (3 : Int32)).toInt.toNat + 1)) (1 : Int32) ((x2 &&& (2147483647 : Int32)) % (9 : Int32)))) + (own_tm (f26 ((x3 &&& (3 : Int32)).toInt.toNat + 2)) (2 : Int32) ((x2 &&& (2147483647 : Int32)) % (9 : Int32)))) + (own_tm (f26 ((x3 &&& (3 : Int32)).toInt.toNat + 3)) (3 : Int32) ((x2 &&& (2147483647 : Int32)) % (9 : Int32)))) + (own_tm (f26 ((x3 &&& (3 : Int32)).toInt.toNat + 4)) (4 : Int32) ((x2 &&& (2147483647 : Int32)) % (9 : Int32)))))]))
  refine own_of (fun _ kk => XS.iload X31.here hx rfl (hb hby at_335) rfl kk) ?_
  show own_Fin _ _ _ _ _ _ _ (T31.setTop (mkF m 337 #[.val (.long x0), .second, .val (.long x1), .second, .val (.int x2), .val (.int x3), .val (.int ((x2 &&& (2147483647 : Int32)) % (9 : Int32))), .val (.int (x3 &&& (3 : Int32))), .val (.ref b1), .unset, .unset] [(.int (x3 &&& (3 : Int32))), (.ref b1), (.long (((((own_tm (f26 ((x3 &&& (3 : Int32)).toInt.toNat + 0)) (0 : Int32) ((x2 &&& (2147483647 : Int32)) % (9 : Int32))) + (own_tm (f26 ((x3 &&& (3 : Int32)).toInt.toNat + 1)) (1 : Int32) ((x2 &&& (2147483647 : Int32)) % (9 : Int32)))) + (own_tm (f26 ((x3 &&& (3 : Int32)).toInt.toNat + 2)) (2 : Int32) ((x2 &&& (2147483647 : Int32)) % (9 : Int32)))) + (own_tm (f26 ((x3 &&& (3 : Int32)).toInt.toNat + 3)) (3 : Int32) ((x2 &&& (2147483647 : Int32)) % (9 : Int32)))) + (own_tm (f26 ((x3 &&& (3 : Int32)).toInt.toNat + 4)) (4 : Int32) ((x2 &&& (2147483647 : Int32)) % (9 : Int32)))))]))
  refine own_of (fun _ kk => XS.iconst X31.here hx rfl (hb hby at_337) kk) ?_
  show own_Fin _ _ _ _ _ _ _ (T31.setTop (mkF m 338 #[.val (.long x0), .second, .val (.long x1), .second, .val (.int x2), .val (.int x3), .val (.int ((x2 &&& (2147483647 : Int32)) % (9 : Int32))), .val (.int (x3 &&& (3 : Int32))), .val (.ref b1), .unset, .unset] [(.int (5 : Int32)), (.int (x3 &&& (3 : Int32))), (.ref b1), (.long (((((own_tm (f26 ((x3 &&& (3 : Int32)).toInt.toNat + 0)) (0 : Int32) ((x2 &&& (2147483647 : Int32)) % (9 : Int32))) + (own_tm (f26 ((x3 &&& (3 : Int32)).toInt.toNat + 1)) (1 : Int32) ((x2 &&& (2147483647 : Int32)) % (9 : Int32)))) + (own_tm (f26 ((x3 &&& (3 : Int32)).toInt.toNat + 2)) (2 : Int32) ((x2 &&& (2147483647 : Int32)) % (9 : Int32)))) + (own_tm (f26 ((x3 &&& (3 : Int32)).toInt.toNat + 3)) (3 : Int32) ((x2 &&& (2147483647 : Int32)) % (9 : Int32)))) + (own_tm (f26 ((x3 &&& (3 : Int32)).toInt.toNat + 4)) (4 : Int32) ((x2 &&& (2147483647 : Int32)) % (9 : Int32)))))]))
  refine own_of (fun _ kk => XS.iload X31.here hx rfl (hb hby at_338) rfl kk) ?_
  show own_Fin _ _ _ _ _ _ _ (T31.setTop (mkF m 340 #[.val (.long x0), .second, .val (.long x1), .second, .val (.int x2), .val (.int x3), .val (.int ((x2 &&& (2147483647 : Int32)) % (9 : Int32))), .val (.int (x3 &&& (3 : Int32))), .val (.ref b1), .unset, .unset] [(.int ((x2 &&& (2147483647 : Int32)) % (9 : Int32))), (.int (5 : Int32)), (.int (x3 &&& (3 : Int32))), (.ref b1), (.long (((((own_tm (f26 ((x3 &&& (3 : Int32)).toInt.toNat + 0)) (0 : Int32) ((x2 &&& (2147483647 : Int32)) % (9 : Int32))) + (own_tm (f26 ((x3 &&& (3 : Int32)).toInt.toNat + 1)) (1 : Int32) ((x2 &&& (2147483647 : Int32)) % (9 : Int32)))) + (own_tm (f26 ((x3 &&& (3 : Int32)).toInt.toNat + 2)) (2 : Int32) ((x2 &&& (2147483647 : Int32)) % (9 : Int32)))) + (own_tm (f26 ((x3 &&& (3 : Int32)).toInt.toNat + 3)) (3 : Int32) ((x2 &&& (2147483647 : Int32)) % (9 : Int32)))) + (own_tm (f26 ((x3 &&& (3 : Int32)).toInt.toNat + 4)) (4 : Int32) ((x2 &&& (2147483647 : Int32)) % (9 : Int32)))))]))
  refine own_callS X31 hx hZ hown (hw _ (List.mem_of_getElem? (i := 6) rfl)) (hw _ (List.mem_of_getElem? (i := 7) rfl)) (hw _ (List.mem_of_getElem? (i := 4) rfl)) (hw _ (List.mem_of_getElem? (i := 8) rfl)) (by decide) e31 (argsL := [(.ref b1), (.int (x3 &&& (3 : Int32))), (.int (5 : Int32)), (.int ((x2 &&& (2147483647 : Int32)) % (9 : Int32)))]) (met2 l Z a0 hw b1 (x3 &&& (3 : Int32)) (5 : Int32) ((x2 &&& (2147483647 : Int32)) % (9 : Int32)) f26 (x3 &&& (3 : Int32)).toInt.toNat 5 h26 n0 Z26 A26 (own_at x3).1 (by decide) (by have := (own_at x3).2; omega)) (W := 2) (by decide) (by decide) (by decide) (by decide) (by rw [hml]; rfl) pd_2 rfl (rest := [(.long (((((own_tm (f26 ((x3 &&& (3 : Int32)).toInt.toNat + 0)) (0 : Int32) ((x2 &&& (2147483647 : Int32)) % (9 : Int32))) + (own_tm (f26 ((x3 &&& (3 : Int32)).toInt.toNat + 1)) (1 : Int32) ((x2 &&& (2147483647 : Int32)) % (9 : Int32)))) + (own_tm (f26 ((x3 &&& (3 : Int32)).toInt.toNat + 2)) (2 : Int32) ((x2 &&& (2147483647 : Int32)) % (9 : Int32)))) + (own_tm (f26 ((x3 &&& (3 : Int32)).toInt.toNat + 3)) (3 : Int32) ((x2 &&& (2147483647 : Int32)) % (9 : Int32)))) + (own_tm (f26 ((x3 &&& (3 : Int32)).toInt.toNat + 4)) (4 : Int32) ((x2 &&& (2147483647 : Int32)) % (9 : Int32)))))]) rfl (Nat.le_of_eq rfl) (hb hby at_340) ?_
  intro v32 T32 h32 L32 X32 e32 q32
  obtain ⟨rfl, qh32, rfl⟩ := q32
  rw [qh32] at e32
  have N32 := Fr.app N31 (Fr.nil n0)
  show own_Fin _ _ _ _ _ _ _ (T32.setTop (mkF m 343 #[.val (.long x0), .second, .val (.long x1), .second, .val (.int x2), .val (.int x3), .val (.int ((x2 &&& (2147483647 : Int32)) % (9 : Int32))), .val (.int (x3 &&& (3 : Int32))), .val (.ref b1), .unset, .unset] [(.long (own_tm (f26 ((x3 &&& (3 : Int32)).toInt.toNat + 5)) (5 : Int32) ((x2 &&& (2147483647 : Int32)) % (9 : Int32)))), (.long (((((own_tm (f26 ((x3 &&& (3 : Int32)).toInt.toNat + 0)) (0 : Int32) ((x2 &&& (2147483647 : Int32)) % (9 : Int32))) + (own_tm (f26 ((x3 &&& (3 : Int32)).toInt.toNat + 1)) (1 : Int32) ((x2 &&& (2147483647 : Int32)) % (9 : Int32)))) + (own_tm (f26 ((x3 &&& (3 : Int32)).toInt.toNat + 2)) (2 : Int32) ((x2 &&& (2147483647 : Int32)) % (9 : Int32)))) + (own_tm (f26 ((x3 &&& (3 : Int32)).toInt.toNat + 3)) (3 : Int32) ((x2 &&& (2147483647 : Int32)) % (9 : Int32)))) + (own_tm (f26 ((x3 &&& (3 : Int32)).toInt.toNat + 4)) (4 : Int32) ((x2 &&& (2147483647 : Int32)) % (9 : Int32)))))]))
  refine own_of (fun _ kk => XS.ladd X32.here hx rfl (hb hby at_343) rfl kk) ?_
  show own_Fin _ _ _ _ _ _ _ (T32.setTop (mkF m 344 #[.val (.long x0), .second, .val (.long x1), .second, .val (.int x2), .val (.int x3), .val (.int ((x2 &&& (2147483647 : Int32)) % (9 : Int32))), .val (.int (x3 &&& (3 : Int32))), .val (.ref b1), .unset, .unset] [(.long ((((((own_tm (f26 ((x3 &&& (3 : Int32)).toInt.toNat + 0)) (0 : Int32) ((x2 &&& (2147483647 : Int32)) % (9 : Int32))) + (own_tm (f26 ((x3 &&& (3 : Int32)).toInt.toNat + 1)) (1 : Int32) ((x2 &&& (2147483647 : Int32)) % (9 : Int32)))) + (own_tm (f26 ((x3 &&& (3 : Int32)).toInt.toNat + 2)) (2 : Int32) ((x2 &&& (2147483647 : Int32)) % (9 : Int32)))) + (own_tm (f26 ((x3 &&& (3 : Int32)).toInt.toNat + 3)) (3 : Int32) ((x2 &&& (2147483647 : Int32)) % (9 : Int32)))) + (own_tm (f26 ((x3 &&& (3 : Int32)).toInt.toNat + 4)) (4 : Int32) ((x2 &&& (2147483647 : Int32)) % (9 : Int32)))) + (own_tm (f26 ((x3 &&& (3 : Int32)).toInt.toNat + 5)) (5 : Int32) ((x2 &&& (2147483647 : Int32)) % (9 : Int32)))))]))
  refine own_of (fun _ kk => XS.aload X32.here hx rfl (hb hby at_344) rfl rfl kk) ?_
  show own_Fin _ _ _ _ _ _ _ (T32.setTop (mkF m 346 #[.val (.long x0), .second, .val (.long x1), .second, .val (.int x2), .val (.int x3), .val (.int ((x2 &&& (2147483647 : Int32)) % (9 : Int32))), .val (.int (x3 &&& (3 : Int32))), .val (.ref b1), .unset, .unset] [(.ref b1), (.long ((((((own_tm (f26 ((x3 &&& (3 : Int32)).toInt.toNat + 0)) (0 : Int32) ((x2 &&& (2147483647 : Int32)) % (9 : Int32))) + (own_tm (f26 ((x3 &&& (3 : Int32)).toInt.toNat + 1)) (1 : Int32) ((x2 &&& (2147483647 : Int32)) % (9 : Int32)))) + (own_tm (f26 ((x3 &&& (3 : Int32)).toInt.toNat + 2)) (2 : Int32) ((x2 &&& (2147483647 : Int32)) % (9 : Int32)))) + (own_tm (f26 ((x3 &&& (3 : Int32)).toInt.toNat + 3)) (3 : Int32) ((x2 &&& (2147483647 : Int32)) % (9 : Int32)))) + (own_tm (f26 ((x3 &&& (3 : Int32)).toInt.toNat + 4)) (4 : Int32) ((x2 &&& (2147483647 : Int32)) % (9 : Int32)))) + (own_tm (f26 ((x3 &&& (3 : Int32)).toInt.toNat + 5)) (5 : Int32) ((x2 &&& (2147483647 : Int32)) % (9 : Int32)))))]))
  refine own_of (fun _ kk => XS.iload X32.here hx rfl (hb hby at_346) rfl kk) ?_
  show own_Fin _ _ _ _ _ _ _ (T32.setTop (mkF m 348 #[.val (.long x0), .second, .val (.long x1), .second, .val (.int x2), .val (.int x3), .val (.int ((x2 &&& (2147483647 : Int32)) % (9 : Int32))), .val (.int (x3 &&& (3 : Int32))), .val (.ref b1), .unset, .unset] [(.int (x3 &&& (3 : Int32))), (.ref b1), (.long ((((((own_tm (f26 ((x3 &&& (3 : Int32)).toInt.toNat + 0)) (0 : Int32) ((x2 &&& (2147483647 : Int32)) % (9 : Int32))) + (own_tm (f26 ((x3 &&& (3 : Int32)).toInt.toNat + 1)) (1 : Int32) ((x2 &&& (2147483647 : Int32)) % (9 : Int32)))) + (own_tm (f26 ((x3 &&& (3 : Int32)).toInt.toNat + 2)) (2 : Int32) ((x2 &&& (2147483647 : Int32)) % (9 : Int32)))) + (own_tm (f26 ((x3 &&& (3 : Int32)).toInt.toNat + 3)) (3 : Int32) ((x2 &&& (2147483647 : Int32)) % (9 : Int32)))) + (own_tm (f26 ((x3 &&& (3 : Int32)).toInt.toNat + 4)) (4 : Int32) ((x2 &&& (2147483647 : Int32)) % (9 : Int32)))) + (own_tm (f26 ((x3 &&& (3 : Int32)).toInt.toNat + 5)) (5 : Int32) ((x2 &&& (2147483647 : Int32)) % (9 : Int32)))))]))
  refine own_of (fun _ kk => XS.bipush X32.here hx rfl (hb hby at_348) kk) ?_
  show own_Fin _ _ _ _ _ _ _ (T32.setTop (mkF m 350 #[.val (.long x0), .second, .val (.long x1), .second, .val (.int x2), .val (.int x3), .val (.int ((x2 &&& (2147483647 : Int32)) % (9 : Int32))), .val (.int (x3 &&& (3 : Int32))), .val (.ref b1), .unset, .unset] [(.int (6 : Int32)), (.int (x3 &&& (3 : Int32))), (.ref b1), (.long ((((((own_tm (f26 ((x3 &&& (3 : Int32)).toInt.toNat + 0)) (0 : Int32) ((x2 &&& (2147483647 : Int32)) % (9 : Int32))) + (own_tm (f26 ((x3 &&& (3 : Int32)).toInt.toNat + 1)) (1 : Int32) ((x2 &&& (2147483647 : Int32)) % (9 : Int32)))) + (own_tm (f26 ((x3 &&& (3 : Int32)).toInt.toNat + 2)) (2 : Int32) ((x2 &&& (2147483647 : Int32)) % (9 : Int32)))) + (own_tm (f26 ((x3 &&& (3 : Int32)).toInt.toNat + 3)) (3 : Int32) ((x2 &&& (2147483647 : Int32)) % (9 : Int32)))) + (own_tm (f26 ((x3 &&& (3 : Int32)).toInt.toNat + 4)) (4 : Int32) ((x2 &&& (2147483647 : Int32)) % (9 : Int32)))) + (own_tm (f26 ((x3 &&& (3 : Int32)).toInt.toNat + 5)) (5 : Int32) ((x2 &&& (2147483647 : Int32)) % (9 : Int32)))))]))
  refine own_of (fun _ kk => XS.iload X32.here hx rfl (hb hby at_350) rfl kk) ?_
  show own_Fin _ _ _ _ _ _ _ (T32.setTop (mkF m 352 #[.val (.long x0), .second, .val (.long x1), .second, .val (.int x2), .val (.int x3), .val (.int ((x2 &&& (2147483647 : Int32)) % (9 : Int32))), .val (.int (x3 &&& (3 : Int32))), .val (.ref b1), .unset, .unset] [(.int ((x2 &&& (2147483647 : Int32)) % (9 : Int32))), (.int (6 : Int32)), (.int (x3 &&& (3 : Int32))), (.ref b1), (.long ((((((own_tm (f26 ((x3 &&& (3 : Int32)).toInt.toNat + 0)) (0 : Int32) ((x2 &&& (2147483647 : Int32)) % (9 : Int32))) + (own_tm (f26 ((x3 &&& (3 : Int32)).toInt.toNat + 1)) (1 : Int32) ((x2 &&& (2147483647 : Int32)) % (9 : Int32)))) + (own_tm (f26 ((x3 &&& (3 : Int32)).toInt.toNat + 2)) (2 : Int32) ((x2 &&& (2147483647 : Int32)) % (9 : Int32)))) + (own_tm (f26 ((x3 &&& (3 : Int32)).toInt.toNat + 3)) (3 : Int32) ((x2 &&& (2147483647 : Int32)) % (9 : Int32)))) + (own_tm (f26 ((x3 &&& (3 : Int32)).toInt.toNat + 4)) (4 : Int32) ((x2 &&& (2147483647 : Int32)) % (9 : Int32)))) + (own_tm (f26 ((x3 &&& (3 : Int32)).toInt.toNat + 5)) (5 : Int32) ((x2 &&& (2147483647 : Int32)) % (9 : Int32)))))]))
  refine own_callS X32 hx hZ hown (hw _ (List.mem_of_getElem? (i := 6) rfl)) (hw _ (List.mem_of_getElem? (i := 7) rfl)) (hw _ (List.mem_of_getElem? (i := 4) rfl)) (hw _ (List.mem_of_getElem? (i := 8) rfl)) (by decide) e32 (argsL := [(.ref b1), (.int (x3 &&& (3 : Int32))), (.int (6 : Int32)), (.int ((x2 &&& (2147483647 : Int32)) % (9 : Int32)))]) (met2 l Z a0 hw b1 (x3 &&& (3 : Int32)) (6 : Int32) ((x2 &&& (2147483647 : Int32)) % (9 : Int32)) f26 (x3 &&& (3 : Int32)).toInt.toNat 6 h26 n0 Z26 A26 (own_at x3).1 (by decide) (by have := (own_at x3).2; omega)) (W := 2) (by decide) (by decide) (by decide) (by decide) (by rw [hml]; rfl) pd_2 rfl (rest := [(.long ((((((own_tm (f26 ((x3 &&& (3 : Int32)).toInt.toNat + 0)) (0 : Int32) ((x2 &&& (2147483647 : Int32)) % (9 : Int32))) + (own_tm (f26 ((x3 &&& (3 : Int32)).toInt.toNat + 1)) (1 : Int32) ((x2 &&& (2147483647 : Int32)) % (9 : Int32)))) + (own_tm (f26 ((x3 &&& (3 : Int32)).toInt.toNat + 2)) (2 : Int32) ((x2 &&& (2147483647 : Int32)) % (9 : Int32)))) + (own_tm (f26 ((x3 &&& (3 : Int32)).toInt.toNat + 3)) (3 : Int32) ((x2 &&& (2147483647 : Int32)) % (9 : Int32)))) + (own_tm (f26 ((x3 &&& (3 : Int32)).toInt.toNat + 4)) (4 : Int32) ((x2 &&& (2147483647 : Int32)) % (9 : Int32)))) + (own_tm (f26 ((x3 &&& (3 : Int32)).toInt.toNat + 5)) (5 : Int32) ((x2 &&& (2147483647 : Int32)) % (9 : Int32)))))]) rfl (Nat.le_of_eq rfl) (hb hby at_352) ?_
  intro v33 T33 h33 L33 X33 e33 q33
  obtain ⟨rfl, qh33, rfl⟩ := q33
  rw [qh33] at e33
  have N33 := Fr.app N32 (Fr.nil n0)
  show own_Fin _ _ _ _ _ _ _ (T33.setTop (mkF m 355 #[.val (.long x0), .second, .val (.long x1), .second, .val (.int x2), .val (.int x3), .val (.int ((x2 &&& (2147483647 : Int32)) % (9 : Int32))), .val (.int (x3 &&& (3 : Int32))), .val (.ref b1), .unset, .unset] [(.long (own_tm (f26 ((x3 &&& (3 : Int32)).toInt.toNat + 6)) (6 : Int32) ((x2 &&& (2147483647 : Int32)) % (9 : Int32)))), (.long ((((((own_tm (f26 ((x3 &&& (3 : Int32)).toInt.toNat + 0)) (0 : Int32) ((x2 &&& (2147483647 : Int32)) % (9 : Int32))) + (own_tm (f26 ((x3 &&& (3 : Int32)).toInt.toNat + 1)) (1 : Int32) ((x2 &&& (2147483647 : Int32)) % (9 : Int32)))) + (own_tm (f26 ((x3 &&& (3 : Int32)).toInt.toNat + 2)) (2 : Int32) ((x2 &&& (2147483647 : Int32)) % (9 : Int32)))) + (own_tm (f26 ((x3 &&& (3 : Int32)).toInt.toNat + 3)) (3 : Int32) ((x2 &&& (2147483647 : Int32)) % (9 : Int32)))) + (own_tm (f26 ((x3 &&& (3 : Int32)).toInt.toNat + 4)) (4 : Int32) ((x2 &&& (2147483647 : Int32)) % (9 : Int32)))) + (own_tm (f26 ((x3 &&& (3 : Int32)).toInt.toNat + 5)) (5 : Int32) ((x2 &&& (2147483647 : Int32)) % (9 : Int32)))))]))
  refine own_of (fun _ kk => XS.ladd X33.here hx rfl (hb hby at_355) rfl kk) ?_
  show own_Fin _ _ _ _ _ _ _ (T33.setTop (mkF m 356 #[.val (.long x0), .second, .val (.long x1), .second, .val (.int x2), .val (.int x3), .val (.int ((x2 &&& (2147483647 : Int32)) % (9 : Int32))), .val (.int (x3 &&& (3 : Int32))), .val (.ref b1), .unset, .unset] [(.long (((((((own_tm (f26 ((x3 &&& (3 : Int32)).toInt.toNat + 0)) (0 : Int32) ((x2 &&& (2147483647 : Int32)) % (9 : Int32))) + (own_tm (f26 ((x3 &&& (3 : Int32)).toInt.toNat + 1)) (1 : Int32) ((x2 &&& (2147483647 : Int32)) % (9 : Int32)))) + (own_tm (f26 ((x3 &&& (3 : Int32)).toInt.toNat + 2)) (2 : Int32) ((x2 &&& (2147483647 : Int32)) % (9 : Int32)))) + (own_tm (f26 ((x3 &&& (3 : Int32)).toInt.toNat + 3)) (3 : Int32) ((x2 &&& (2147483647 : Int32)) % (9 : Int32)))) + (own_tm (f26 ((x3 &&& (3 : Int32)).toInt.toNat + 4)) (4 : Int32) ((x2 &&& (2147483647 : Int32)) % (9 : Int32)))) + (own_tm (f26 ((x3 &&& (3 : Int32)).toInt.toNat + 5)) (5 : Int32) ((x2 &&& (2147483647 : Int32)) % (9 : Int32)))) + (own_tm (f26 ((x3 &&& (3 : Int32)).toInt.toNat + 6)) (6 : Int32) ((x2 &&& (2147483647 : Int32)) % (9 : Int32)))))]))
  refine own_of (fun _ kk => XS.aload X33.here hx rfl (hb hby at_356) rfl rfl kk) ?_
  show own_Fin _ _ _ _ _ _ _ (T33.setTop (mkF m 358 #[.val (.long x0), .second, .val (.long x1), .second, .val (.int x2), .val (.int x3), .val (.int ((x2 &&& (2147483647 : Int32)) % (9 : Int32))), .val (.int (x3 &&& (3 : Int32))), .val (.ref b1), .unset, .unset] [(.ref b1), (.long (((((((own_tm (f26 ((x3 &&& (3 : Int32)).toInt.toNat + 0)) (0 : Int32) ((x2 &&& (2147483647 : Int32)) % (9 : Int32))) + (own_tm (f26 ((x3 &&& (3 : Int32)).toInt.toNat + 1)) (1 : Int32) ((x2 &&& (2147483647 : Int32)) % (9 : Int32)))) + (own_tm (f26 ((x3 &&& (3 : Int32)).toInt.toNat + 2)) (2 : Int32) ((x2 &&& (2147483647 : Int32)) % (9 : Int32)))) + (own_tm (f26 ((x3 &&& (3 : Int32)).toInt.toNat + 3)) (3 : Int32) ((x2 &&& (2147483647 : Int32)) % (9 : Int32)))) + (own_tm (f26 ((x3 &&& (3 : Int32)).toInt.toNat + 4)) (4 : Int32) ((x2 &&& (2147483647 : Int32)) % (9 : Int32)))) + (own_tm (f26 ((x3 &&& (3 : Int32)).toInt.toNat + 5)) (5 : Int32) ((x2 &&& (2147483647 : Int32)) % (9 : Int32)))) + (own_tm (f26 ((x3 &&& (3 : Int32)).toInt.toNat + 6)) (6 : Int32) ((x2 &&& (2147483647 : Int32)) % (9 : Int32)))))]))
  refine own_of (fun _ kk => XS.iload X33.here hx rfl (hb hby at_358) rfl kk) ?_
  show own_Fin _ _ _ _ _ _ _ (T33.setTop (mkF m 360 #[.val (.long x0), .second, .val (.long x1), .second, .val (.int x2), .val (.int x3), .val (.int ((x2 &&& (2147483647 : Int32)) % (9 : Int32))), .val (.int (x3 &&& (3 : Int32))), .val (.ref b1), .unset, .unset] [(.int (x3 &&& (3 : Int32))), (.ref b1), (.long (((((((own_tm (f26 ((x3 &&& (3 : Int32)).toInt.toNat + 0)) (0 : Int32) ((x2 &&& (2147483647 : Int32)) % (9 : Int32))) + (own_tm (f26 ((x3 &&& (3 : Int32)).toInt.toNat + 1)) (1 : Int32) ((x2 &&& (2147483647 : Int32)) % (9 : Int32)))) + (own_tm (f26 ((x3 &&& (3 : Int32)).toInt.toNat + 2)) (2 : Int32) ((x2 &&& (2147483647 : Int32)) % (9 : Int32)))) + (own_tm (f26 ((x3 &&& (3 : Int32)).toInt.toNat + 3)) (3 : Int32) ((x2 &&& (2147483647 : Int32)) % (9 : Int32)))) + (own_tm (f26 ((x3 &&& (3 : Int32)).toInt.toNat + 4)) (4 : Int32) ((x2 &&& (2147483647 : Int32)) % (9 : Int32)))) + (own_tm (f26 ((x3 &&& (3 : Int32)).toInt.toNat + 5)) (5 : Int32) ((x2 &&& (2147483647 : Int32)) % (9 : Int32)))) + (own_tm (f26 ((x3 &&& (3 : Int32)).toInt.toNat + 6)) (6 : Int32) ((x2 &&& (2147483647 : Int32)) % (9 : Int32)))))]))
  refine own_of (fun _ kk => XS.bipush X33.here hx rfl (hb hby at_360) kk) ?_
  show own_Fin _ _ _ _ _ _ _ (T33.setTop (mkF m 362 #[.val (.long x0), .second, .val (.long x1), .second, .val (.int x2), .val (.int x3), .val (.int ((x2 &&& (2147483647 : Int32)) % (9 : Int32))), .val (.int (x3 &&& (3 : Int32))), .val (.ref b1), .unset, .unset] [(.int (7 : Int32)), (.int (x3 &&& (3 : Int32))), (.ref b1), (.long (((((((own_tm (f26 ((x3 &&& (3 : Int32)).toInt.toNat + 0)) (0 : Int32) ((x2 &&& (2147483647 : Int32)) % (9 : Int32))) + (own_tm (f26 ((x3 &&& (3 : Int32)).toInt.toNat + 1)) (1 : Int32) ((x2 &&& (2147483647 : Int32)) % (9 : Int32)))) + (own_tm (f26 ((x3 &&& (3 : Int32)).toInt.toNat + 2)) (2 : Int32) ((x2 &&& (2147483647 : Int32)) % (9 : Int32)))) + (own_tm (f26 ((x3 &&& (3 : Int32)).toInt.toNat + 3)) (3 : Int32) ((x2 &&& (2147483647 : Int32)) % (9 : Int32)))) + (own_tm (f26 ((x3 &&& (3 : Int32)).toInt.toNat + 4)) (4 : Int32) ((x2 &&& (2147483647 : Int32)) % (9 : Int32)))) + (own_tm (f26 ((x3 &&& (3 : Int32)).toInt.toNat + 5)) (5 : Int32) ((x2 &&& (2147483647 : Int32)) % (9 : Int32)))) + (own_tm (f26 ((x3 &&& (3 : Int32)).toInt.toNat + 6)) (6 : Int32) ((x2 &&& (2147483647 : Int32)) % (9 : Int32)))))]))
  refine own_of (fun _ kk => XS.iload X33.here hx rfl (hb hby at_362) rfl kk) ?_
  show own_Fin _ _ _ _ _ _ _ (T33.setTop (mkF m 364 #[.val (.long x0), .second, .val (.long x1), .second, .val (.int x2), .val (.int x3), .val (.int ((x2 &&& (2147483647 : Int32)) % (9 : Int32))), .val (.int (x3 &&& (3 : Int32))), .val (.ref b1), .unset, .unset] [(.int ((x2 &&& (2147483647 : Int32)) % (9 : Int32))), (.int (7 : Int32)), (.int (x3 &&& (3 : Int32))), (.ref b1), (.long (((((((own_tm (f26 ((x3 &&& (3 : Int32)).toInt.toNat + 0)) (0 : Int32) ((x2 &&& (2147483647 : Int32)) % (9 : Int32))) + (own_tm (f26 ((x3 &&& (3 : Int32)).toInt.toNat + 1)) (1 : Int32) ((x2 &&& (2147483647 : Int32)) % (9 : Int32)))) + (own_tm (f26 ((x3 &&& (3 : Int32)).toInt.toNat + 2)) (2 : Int32) ((x2 &&& (2147483647 : Int32)) % (9 : Int32)))) + (own_tm (f26 ((x3 &&& (3 : Int32)).toInt.toNat + 3)) (3 : Int32) ((x2 &&& (2147483647 : Int32)) % (9 : Int32)))) + (own_tm (f26 ((x3 &&& (3 : Int32)).toInt.toNat + 4)) (4 : Int32) ((x2 &&& (2147483647 : Int32)) % (9 : Int32)))) + (own_tm (f26 ((x3 &&& (3 : Int32)).toInt.toNat + 5)) (5 : Int32) ((x2 &&& (2147483647 : Int32)) % (9 : Int32)))) + (own_tm (f26 ((x3 &&& (3 : Int32)).toInt.toNat + 6)) (6 : Int32) ((x2 &&& (2147483647 : Int32)) % (9 : Int32)))))]))
  refine own_callS X33 hx hZ hown (hw _ (List.mem_of_getElem? (i := 6) rfl)) (hw _ (List.mem_of_getElem? (i := 7) rfl)) (hw _ (List.mem_of_getElem? (i := 4) rfl)) (hw _ (List.mem_of_getElem? (i := 8) rfl)) (by decide) e33 (argsL := [(.ref b1), (.int (x3 &&& (3 : Int32))), (.int (7 : Int32)), (.int ((x2 &&& (2147483647 : Int32)) % (9 : Int32)))]) (met2 l Z a0 hw b1 (x3 &&& (3 : Int32)) (7 : Int32) ((x2 &&& (2147483647 : Int32)) % (9 : Int32)) f26 (x3 &&& (3 : Int32)).toInt.toNat 7 h26 n0 Z26 A26 (own_at x3).1 (by decide) (by have := (own_at x3).2; omega)) (W := 2) (by decide) (by decide) (by decide) (by decide) (by rw [hml]; rfl) pd_2 rfl (rest := [(.long (((((((own_tm (f26 ((x3 &&& (3 : Int32)).toInt.toNat + 0)) (0 : Int32) ((x2 &&& (2147483647 : Int32)) % (9 : Int32))) + (own_tm (f26 ((x3 &&& (3 : Int32)).toInt.toNat + 1)) (1 : Int32) ((x2 &&& (2147483647 : Int32)) % (9 : Int32)))) + (own_tm (f26 ((x3 &&& (3 : Int32)).toInt.toNat + 2)) (2 : Int32) ((x2 &&& (2147483647 : Int32)) % (9 : Int32)))) + (own_tm (f26 ((x3 &&& (3 : Int32)).toInt.toNat + 3)) (3 : Int32) ((x2 &&& (2147483647 : Int32)) % (9 : Int32)))) + (own_tm (f26 ((x3 &&& (3 : Int32)).toInt.toNat + 4)) (4 : Int32) ((x2 &&& (2147483647 : Int32)) % (9 : Int32)))) + (own_tm (f26 ((x3 &&& (3 : Int32)).toInt.toNat + 5)) (5 : Int32) ((x2 &&& (2147483647 : Int32)) % (9 : Int32)))) + (own_tm (f26 ((x3 &&& (3 : Int32)).toInt.toNat + 6)) (6 : Int32) ((x2 &&& (2147483647 : Int32)) % (9 : Int32)))))]) rfl (Nat.le_of_eq rfl) (hb hby at_364) ?_
  intro v34 T34 h34 L34 X34 e34 q34
  obtain ⟨rfl, qh34, rfl⟩ := q34
  rw [qh34] at e34
  have N34 := Fr.app N33 (Fr.nil n0)
  show own_Fin _ _ _ _ _ _ _ (T34.setTop (mkF m 367 #[.val (.long x0), .second, .val (.long x1), .second, .val (.int x2), .val (.int x3), .val (.int ((x2 &&& (2147483647 : Int32)) % (9 : Int32))), .val (.int (x3 &&& (3 : Int32))), .val (.ref b1), .unset, .unset] [(.long (own_tm (f26 ((x3 &&& (3 : Int32)).toInt.toNat + 7)) (7 : Int32) ((x2 &&& (2147483647 : Int32)) % (9 : Int32)))), (.long (((((((own_tm (f26 ((x3 &&& (3 : Int32)).toInt.toNat + 0)) (0 : Int32) ((x2 &&& (2147483647 : Int32)) % (9 : Int32))) + (own_tm (f26 ((x3 &&& (3 : Int32)).toInt.toNat + 1)) (1 : Int32) ((x2 &&& (2147483647 : Int32)) % (9 : Int32)))) + (own_tm (f26 ((x3 &&& (3 : Int32)).toInt.toNat + 2)) (2 : Int32) ((x2 &&& (2147483647 : Int32)) % (9 : Int32)))) + (own_tm (f26 ((x3 &&& (3 : Int32)).toInt.toNat + 3)) (3 : Int32) ((x2 &&& (2147483647 : Int32)) % (9 : Int32)))) + (own_tm (f26 ((x3 &&& (3 : Int32)).toInt.toNat + 4)) (4 : Int32) ((x2 &&& (2147483647 : Int32)) % (9 : Int32)))) + (own_tm (f26 ((x3 &&& (3 : Int32)).toInt.toNat + 5)) (5 : Int32) ((x2 &&& (2147483647 : Int32)) % (9 : Int32)))) + (own_tm (f26 ((x3 &&& (3 : Int32)).toInt.toNat + 6)) (6 : Int32) ((x2 &&& (2147483647 : Int32)) % (9 : Int32)))))]))
  refine own_of (fun _ kk => XS.ladd X34.here hx rfl (hb hby at_367) rfl kk) ?_
  show own_Fin _ _ _ _ _ _ _ (T34.setTop (mkF m 368 #[.val (.long x0), .second, .val (.long x1), .second, .val (.int x2), .val (.int x3), .val (.int ((x2 &&& (2147483647 : Int32)) % (9 : Int32))), .val (.int (x3 &&& (3 : Int32))), .val (.ref b1), .unset, .unset] [(.long ((((((((own_tm (f26 ((x3 &&& (3 : Int32)).toInt.toNat + 0)) (0 : Int32) ((x2 &&& (2147483647 : Int32)) % (9 : Int32))) + (own_tm (f26 ((x3 &&& (3 : Int32)).toInt.toNat + 1)) (1 : Int32) ((x2 &&& (2147483647 : Int32)) % (9 : Int32)))) + (own_tm (f26 ((x3 &&& (3 : Int32)).toInt.toNat + 2)) (2 : Int32) ((x2 &&& (2147483647 : Int32)) % (9 : Int32)))) + (own_tm (f26 ((x3 &&& (3 : Int32)).toInt.toNat + 3)) (3 : Int32) ((x2 &&& (2147483647 : Int32)) % (9 : Int32)))) + (own_tm (f26 ((x3 &&& (3 : Int32)).toInt.toNat + 4)) (4 : Int32) ((x2 &&& (2147483647 : Int32)) % (9 : Int32)))) + (own_tm (f26 ((x3 &&& (3 : Int32)).toInt.toNat + 5)) (5 : Int32) ((x2 &&& (2147483647 : Int32)) % (9 : Int32)))) + (own_tm (f26 ((x3 &&& (3 : Int32)).toInt.toNat + 6)) (6 : Int32) ((x2 &&& (2147483647 : Int32)) % (9 : Int32)))) + (own_tm (f26 ((x3 &&& (3 : Int32)).toInt.toNat + 7)) (7 : Int32) ((x2 &&& (2147483647 : Int32)) % (9 : Int32)))))]))
  refine own_of (fun _ kk => XS.aload X34.here hx rfl (hb hby at_368) rfl rfl kk) ?_
  show own_Fin _ _ _ _ _ _ _ (T34.setTop (mkF m 370 #[.val (.long x0), .second, .val (.long x1), .second, .val (.int x2), .val (.int x3), .val (.int ((x2 &&& (2147483647 : Int32)) % (9 : Int32))), .val (.int (x3 &&& (3 : Int32))), .val (.ref b1), .unset, .unset] [(.ref b1), (.long ((((((((own_tm (f26 ((x3 &&& (3 : Int32)).toInt.toNat + 0)) (0 : Int32) ((x2 &&& (2147483647 : Int32)) % (9 : Int32))) + (own_tm (f26 ((x3 &&& (3 : Int32)).toInt.toNat + 1)) (1 : Int32) ((x2 &&& (2147483647 : Int32)) % (9 : Int32)))) + (own_tm (f26 ((x3 &&& (3 : Int32)).toInt.toNat + 2)) (2 : Int32) ((x2 &&& (2147483647 : Int32)) % (9 : Int32)))) + (own_tm (f26 ((x3 &&& (3 : Int32)).toInt.toNat + 3)) (3 : Int32) ((x2 &&& (2147483647 : Int32)) % (9 : Int32)))) + (own_tm (f26 ((x3 &&& (3 : Int32)).toInt.toNat + 4)) (4 : Int32) ((x2 &&& (2147483647 : Int32)) % (9 : Int32)))) + (own_tm (f26 ((x3 &&& (3 : Int32)).toInt.toNat + 5)) (5 : Int32) ((x2 &&& (2147483647 : Int32)) % (9 : Int32)))) + (own_tm (f26 ((x3 &&& (3 : Int32)).toInt.toNat + 6)) (6 : Int32) ((x2 &&& (2147483647 : Int32)) % (9 : Int32)))) + (own_tm (f26 ((x3 &&& (3 : Int32)).toInt.toNat + 7)) (7 : Int32) ((x2 &&& (2147483647 : Int32)) % (9 : Int32)))))]))
  refine own_of (fun _ kk => XS.iload X34.here hx rfl (hb hby at_370) rfl kk) ?_
  show own_Fin _ _ _ _ _ _ _ (T34.setTop (mkF m 372 #[.val (.long x0), .second, .val (.long x1), .second, .val (.int x2), .val (.int x3), .val (.int ((x2 &&& (2147483647 : Int32)) % (9 : Int32))), .val (.int (x3 &&& (3 : Int32))), .val (.ref b1), .unset, .unset] [(.int (x3 &&& (3 : Int32))), (.ref b1), (.long ((((((((own_tm (f26 ((x3 &&& (3 : Int32)).toInt.toNat + 0)) (0 : Int32) ((x2 &&& (2147483647 : Int32)) % (9 : Int32))) + (own_tm (f26 ((x3 &&& (3 : Int32)).toInt.toNat + 1)) (1 : Int32) ((x2 &&& (2147483647 : Int32)) % (9 : Int32)))) + (own_tm (f26 ((x3 &&& (3 : Int32)).toInt.toNat + 2)) (2 : Int32) ((x2 &&& (2147483647 : Int32)) % (9 : Int32)))) + (own_tm (f26 ((x3 &&& (3 : Int32)).toInt.toNat + 3)) (3 : Int32) ((x2 &&& (2147483647 : Int32)) % (9 : Int32)))) + (own_tm (f26 ((x3 &&& (3 : Int32)).toInt.toNat + 4)) (4 : Int32) ((x2 &&& (2147483647 : Int32)) % (9 : Int32)))) + (own_tm (f26 ((x3 &&& (3 : Int32)).toInt.toNat + 5)) (5 : Int32) ((x2 &&& (2147483647 : Int32)) % (9 : Int32)))) + (own_tm (f26 ((x3 &&& (3 : Int32)).toInt.toNat + 6)) (6 : Int32) ((x2 &&& (2147483647 : Int32)) % (9 : Int32)))) + (own_tm (f26 ((x3 &&& (3 : Int32)).toInt.toNat + 7)) (7 : Int32) ((x2 &&& (2147483647 : Int32)) % (9 : Int32)))))]))
  refine own_of (fun _ kk => XS.bipush X34.here hx rfl (hb hby at_372) kk) ?_
  show own_Fin _ _ _ _ _ _ _ (T34.setTop (mkF m 374 #[.val (.long x0), .second, .val (.long x1), .second, .val (.int x2), .val (.int x3), .val (.int ((x2 &&& (2147483647 : Int32)) % (9 : Int32))), .val (.int (x3 &&& (3 : Int32))), .val (.ref b1), .unset, .unset] [(.int (8 : Int32)), (.int (x3 &&& (3 : Int32))), (.ref b1), (.long ((((((((own_tm (f26 ((x3 &&& (3 : Int32)).toInt.toNat + 0)) (0 : Int32) ((x2 &&& (2147483647 : Int32)) % (9 : Int32))) + (own_tm (f26 ((x3 &&& (3 : Int32)).toInt.toNat + 1)) (1 : Int32) ((x2 &&& (2147483647 : Int32)) % (9 : Int32)))) + (own_tm (f26 ((x3 &&& (3 : Int32)).toInt.toNat + 2)) (2 : Int32) ((x2 &&& (2147483647 : Int32)) % (9 : Int32)))) + (own_tm (f26 ((x3 &&& (3 : Int32)).toInt.toNat + 3)) (3 : Int32) ((x2 &&& (2147483647 : Int32)) % (9 : Int32)))) + (own_tm (f26 ((x3 &&& (3 : Int32)).toInt.toNat + 4)) (4 : Int32) ((x2 &&& (2147483647 : Int32)) % (9 : Int32)))) + (own_tm (f26 ((x3 &&& (3 : Int32)).toInt.toNat + 5)) (5 : Int32) ((x2 &&& (2147483647 : Int32)) % (9 : Int32)))) + (own_tm (f26 ((x3 &&& (3 : Int32)).toInt.toNat + 6)) (6 : Int32) ((x2 &&& (2147483647 : Int32)) % (9 : Int32)))) + (own_tm (f26 ((x3 &&& (3 : Int32)).toInt.toNat + 7)) (7 : Int32) ((x2 &&& (2147483647 : Int32)) % (9 : Int32)))))]))
  refine own_of (fun _ kk => XS.iload X34.here hx rfl (hb hby at_374) rfl kk) ?_
  show own_Fin _ _ _ _ _ _ _ (T34.setTop (mkF m 376 #[.val (.long x0), .second, .val (.long x1), .second, .val (.int x2), .val (.int x3), .val (.int ((x2 &&& (2147483647 : Int32)) % (9 : Int32))), .val (.int (x3 &&& (3 : Int32))), .val (.ref b1), .unset, .unset] [(.int ((x2 &&& (2147483647 : Int32)) % (9 : Int32))), (.int (8 : Int32)), (.int (x3 &&& (3 : Int32))), (.ref b1), (.long ((((((((own_tm (f26 ((x3 &&& (3 : Int32)).toInt.toNat + 0)) (0 : Int32) ((x2 &&& (2147483647 : Int32)) % (9 : Int32))) + (own_tm (f26 ((x3 &&& (3 : Int32)).toInt.toNat + 1)) (1 : Int32) ((x2 &&& (2147483647 : Int32)) % (9 : Int32)))) + (own_tm (f26 ((x3 &&& (3 : Int32)).toInt.toNat + 2)) (2 : Int32) ((x2 &&& (2147483647 : Int32)) % (9 : Int32)))) + (own_tm (f26 ((x3 &&& (3 : Int32)).toInt.toNat + 3)) (3 : Int32) ((x2 &&& (2147483647 : Int32)) % (9 : Int32)))) + (own_tm (f26 ((x3 &&& (3 : Int32)).toInt.toNat + 4)) (4 : Int32) ((x2 &&& (2147483647 : Int32)) % (9 : Int32)))) + (own_tm (f26 ((x3 &&& (3 : Int32)).toInt.toNat + 5)) (5 : Int32) ((x2 &&& (2147483647 : Int32)) % (9 : Int32)))) + (own_tm (f26 ((x3 &&& (3 : Int32)).toInt.toNat + 6)) (6 : Int32) ((x2 &&& (2147483647 : Int32)) % (9 : Int32)))) + (own_tm (f26 ((x3 &&& (3 : Int32)).toInt.toNat + 7)) (7 : Int32) ((x2 &&& (2147483647 : Int32)) % (9 : Int32)))))]))
  refine own_callS X34 hx hZ hown (hw _ (List.mem_of_getElem? (i := 6) rfl)) (hw _ (List.mem_of_getElem? (i := 7) rfl)) (hw _ (List.mem_of_getElem? (i := 4) rfl)) (hw _ (List.mem_of_getElem? (i := 8) rfl)) (by decide) e34 (argsL := [(.ref b1), (.int (x3 &&& (3 : Int32))), (.int (8 : Int32)), (.int ((x2 &&& (2147483647 : Int32)) % (9 : Int32)))]) (met2 l Z a0 hw b1 (x3 &&& (3 : Int32)) (8 : Int32) ((x2 &&& (2147483647 : Int32)) % (9 : Int32)) f26 (x3 &&& (3 : Int32)).toInt.toNat 8 h26 n0 Z26 A26 (own_at x3).1 (by decide) (by have := (own_at x3).2; omega)) (W := 2) (by decide) (by decide) (by decide) (by decide) (by rw [hml]; rfl) pd_2 rfl (rest := [(.long ((((((((own_tm (f26 ((x3 &&& (3 : Int32)).toInt.toNat + 0)) (0 : Int32) ((x2 &&& (2147483647 : Int32)) % (9 : Int32))) + (own_tm (f26 ((x3 &&& (3 : Int32)).toInt.toNat + 1)) (1 : Int32) ((x2 &&& (2147483647 : Int32)) % (9 : Int32)))) + (own_tm (f26 ((x3 &&& (3 : Int32)).toInt.toNat + 2)) (2 : Int32) ((x2 &&& (2147483647 : Int32)) % (9 : Int32)))) + (own_tm (f26 ((x3 &&& (3 : Int32)).toInt.toNat + 3)) (3 : Int32) ((x2 &&& (2147483647 : Int32)) % (9 : Int32)))) + (own_tm (f26 ((x3 &&& (3 : Int32)).toInt.toNat + 4)) (4 : Int32) ((x2 &&& (2147483647 : Int32)) % (9 : Int32)))) + (own_tm (f26 ((x3 &&& (3 : Int32)).toInt.toNat + 5)) (5 : Int32) ((x2 &&& (2147483647 : Int32)) % (9 : Int32)))) + (own_tm (f26 ((x3 &&& (3 : Int32)).toInt.toNat + 6)) (6 : Int32) ((x2 &&& (2147483647 : Int32)) % (9 : Int32)))) + (own_tm (f26 ((x3 &&& (3 : Int32)).toInt.toNat + 7)) (7 : Int32) ((x2 &&& (2147483647 : Int32)) % (9 : Int32)))))]) rfl (Nat.le_of_eq rfl) (hb hby at_376) ?_
  intro v35 T35 h35 L35 X35 e35 q35
  obtain ⟨rfl, qh35, rfl⟩ := q35
  rw [qh35] at e35
  have N35 := Fr.app N34 (Fr.nil n0)
  show own_Fin _ _ _ _ _ _ _ (T35.setTop (mkF m 379 #[.val (.long x0), .second, .val (.long x1), .second, .val (.int x2), .val (.int x3), .val (.int ((x2 &&& (2147483647 : Int32)) % (9 : Int32))), .val (.int (x3 &&& (3 : Int32))), .val (.ref b1), .unset, .unset] [(.long (own_tm (f26 ((x3 &&& (3 : Int32)).toInt.toNat + 8)) (8 : Int32) ((x2 &&& (2147483647 : Int32)) % (9 : Int32)))), (.long ((((((((own_tm (f26 ((x3 &&& (3 : Int32)).toInt.toNat + 0)) (0 : Int32) ((x2 &&& (2147483647 : Int32)) % (9 : Int32))) + (own_tm (f26 ((x3 &&& (3 : Int32)).toInt.toNat + 1)) (1 : Int32) ((x2 &&& (2147483647 : Int32)) % (9 : Int32)))) + (own_tm (f26 ((x3 &&& (3 : Int32)).toInt.toNat + 2)) (2 : Int32) ((x2 &&& (2147483647 : Int32)) % (9 : Int32)))) + (own_tm (f26 ((x3 &&& (3 : Int32)).toInt.toNat + 3)) (3 : Int32) ((x2 &&& (2147483647 : Int32)) % (9 : Int32)))) + (own_tm (f26 ((x3 &&& (3 : Int32)).toInt.toNat + 4)) (4 : Int32) ((x2 &&& (2147483647 : Int32)) % (9 : Int32)))) + (own_tm (f26 ((x3 &&& (3 : Int32)).toInt.toNat + 5)) (5 : Int32) ((x2 &&& (2147483647 : Int32)) % (9 : Int32)))) + (own_tm (f26 ((x3 &&& (3 : Int32)).toInt.toNat + 6)) (6 : Int32) ((x2 &&& (2147483647 : Int32)) % (9 : Int32)))) + (own_tm (f26 ((x3 &&& (3 : Int32)).toInt.toNat + 7)) (7 : Int32) ((x2 &&& (2147483647 : Int32)) % (9 : Int32)))))]))
  refine own_of (fun _ kk => XS.ladd X35.here hx rfl (hb hby at_379) rfl kk) ?_
  show own_Fin _ _ _ _ _ _ _ (T35.setTop (mkF m 380 #[.val (.long x0), .second, .val (.long x1), .second, .val (.int x2), .val (.int x3), .val (.int ((x2 &&& (2147483647 : Int32)) % (9 : Int32))), .val (.int (x3 &&& (3 : Int32))), .val (.ref b1), .unset, .unset] [(.long (((((((((own_tm (f26 ((x3 &&& (3 : Int32)).toInt.toNat + 0)) (0 : Int32) ((x2 &&& (2147483647 : Int32)) % (9 : Int32))) + (own_tm (f26 ((x3 &&& (3 : Int32)).toInt.toNat + 1)) (1 : Int32) ((x2 &&& (2147483647 : Int32)) % (9 : Int32)))) + (own_tm (f26 ((x3 &&& (3 : Int32)).toInt.toNat + 2)) (2 : Int32) ((x2 &&& (2147483647 : Int32)) % (9 : Int32)))) + (own_tm (f26 ((x3 &&& (3 : Int32)).toInt.toNat + 3)) (3 : Int32) ((x2 &&& (2147483647 : Int32)) % (9 : Int32)))) + (own_tm (f26 ((x3 &&& (3 : Int32)).toInt.toNat + 4)) (4 : Int32) ((x2 &&& (2147483647 : Int32)) % (9 : Int32)))) + (own_tm (f26 ((x3 &&& (3 : Int32)).toInt.toNat + 5)) (5 : Int32) ((x2 &&& (2147483647 : Int32)) % (9 : Int32)))) + (own_tm (f26 ((x3 &&& (3 : Int32)).toInt.toNat + 6)) (6 : Int32) ((x2 &&& (2147483647 : Int32)) % (9 : Int32)))) + (own_tm (f26 ((x3 &&& (3 : Int32)).toInt.toNat + 7)) (7 : Int32) ((x2 &&& (2147483647 : Int32)) % (9 : Int32)))) + (own_tm (f26 ((x3 &&& (3 : Int32)).toInt.toNat + 8)) (8 : Int32) ((x2 &&& (2147483647 : Int32)) % (9 : Int32)))))]))
  refine own_of (fun _ kk => XS.lstore X35.here hx rfl (hb hby at_380) rfl (l' := #[.val (.long x0), .second, .val (.long x1), .second, .val (.int x2), .val (.int x3), .val (.int ((x2 &&& (2147483647 : Int32)) % (9 : Int32))), .val (.int (x3 &&& (3 : Int32))), .val (.ref b1), .val (.long (((((((((own_tm (f26 ((x3 &&& (3 : Int32)).toInt.toNat + 0)) (0 : Int32) ((x2 &&& (2147483647 : Int32)) % (9 : Int32))) + (own_tm (f26 ((x3 &&& (3 : Int32)).toInt.toNat + 1)) (1 : Int32) ((x2 &&& (2147483647 : Int32)) % (9 : Int32)))) + (own_tm (f26 ((x3 &&& (3 : Int32)).toInt.toNat + 2)) (2 : Int32) ((x2 &&& (2147483647 : Int32)) % (9 : Int32)))) + (own_tm (f26 ((x3 &&& (3 : Int32)).toInt.toNat + 3)) (3 : Int32) ((x2 &&& (2147483647 : Int32)) % (9 : Int32)))) + (own_tm (f26 ((x3 &&& (3 : Int32)).toInt.toNat + 4)) (4 : Int32) ((x2 &&& (2147483647 : Int32)) % (9 : Int32)))) + (own_tm (f26 ((x3 &&& (3 : Int32)).toInt.toNat + 5)) (5 : Int32) ((x2 &&& (2147483647 : Int32)) % (9 : Int32)))) + (own_tm (f26 ((x3 &&& (3 : Int32)).toInt.toNat + 6)) (6 : Int32) ((x2 &&& (2147483647 : Int32)) % (9 : Int32)))) + (own_tm (f26 ((x3 &&& (3 : Int32)).toInt.toNat + 7)) (7 : Int32) ((x2 &&& (2147483647 : Int32)) % (9 : Int32)))) + (own_tm (f26 ((x3 &&& (3 : Int32)).toInt.toNat + 8)) (8 : Int32) ((x2 &&& (2147483647 : Int32)) % (9 : Int32))))), .second]) rfl kk) ?_
  show own_Fin _ _ _ _ _ _ _ (T35.setTop (mkF m 382 #[.val (.long x0), .second, .val (.long x1), .second, .val (.int x2), .val (.int x3), .val (.int ((x2 &&& (2147483647 : Int32)) % (9 : Int32))), .val (.int (x3 &&& (3 : Int32))), .val (.ref b1), .val (.long (((((((((own_tm (f26 ((x3 &&& (3 : Int32)).toInt.toNat + 0)) (0 : Int32) ((x2 &&& (2147483647 : Int32)) % (9 : Int32))) + (own_tm (f26 ((x3 &&& (3 : Int32)).toInt.toNat + 1)) (1 : Int32) ((x2 &&& (2147483647 : Int32)) % (9 : Int32)))) + (own_tm (f26 ((x3 &&& (3 : Int32)).toInt.toNat + 2)) (2 : Int32) ((x2 &&& (2147483647 : Int32)) % (9 : Int32)))) + (own_tm (f26 ((x3 &&& (3 : Int32)).toInt.toNat + 3)) (3 : Int32) ((x2 &&& (2147483647 : Int32)) % (9 : Int32)))) + (own_tm (f26 ((x3 &&& (3 : Int32)).toInt.toNat + 4)) (4 : Int32) ((x2 &&& (2147483647 : Int32)) % (9 : Int32)))) + (own_tm (f26 ((x3 &&& (3 : Int32)).toInt.toNat + 5)) (5 : Int32) ((x2 &&& (2147483647 : Int32)) % (9 : Int32)))) + (own_tm (f26 ((x3 &&& (3 : Int32)).toInt.toNat + 6)) (6 : Int32) ((x2 &&& (2147483647 : Int32)) % (9 : Int32)))) + (own_tm (f26 ((x3 &&& (3 : Int32)).toInt.toNat + 7)) (7 : Int32) ((x2 &&& (2147483647 : Int32)) % (9 : Int32)))) + (own_tm (f26 ((x3 &&& (3 : Int32)).toInt.toNat + 8)) (8 : Int32) ((x2 &&& (2147483647 : Int32)) % (9 : Int32))))), .second] []))
  refine own_of (fun _ kk => XS.aload X35.here hx rfl (hb hby at_382) rfl rfl kk) ?_
  show own_Fin _ _ _ _ _ _ _ (T35.setTop (mkF m 384 #[.val (.long x0), .second, .val (.long x1), .second, .val (.int x2), .val (.int x3), .val (.int ((x2 &&& (2147483647 : Int32)) % (9 : Int32))), .val (.int (x3 &&& (3 : Int32))), .val (.ref b1), .val (.long (((((((((own_tm (f26 ((x3 &&& (3 : Int32)).toInt.toNat + 0)) (0 : Int32) ((x2 &&& (2147483647 : Int32)) % (9 : Int32))) + (own_tm (f26 ((x3 &&& (3 : Int32)).toInt.toNat + 1)) (1 : Int32) ((x2 &&& (2147483647 : Int32)) % (9 : Int32)))) + (own_tm (f26 ((x3 &&& (3 : Int32)).toInt.toNat + 2)) (2 : Int32) ((x2 &&& (2147483647 : Int32)) % (9 : Int32)))) + (own_tm (f26 ((x3 &&& (3 : Int32)).toInt.toNat + 3)) (3 : Int32) ((x2 &&& (2147483647 : Int32)) % (9 : Int32)))) + (own_tm (f26 ((x3 &&& (3 : Int32)).toInt.toNat + 4)) (4 : Int32) ((x2 &&& (2147483647 : Int32)) % (9 : Int32)))) + (own_tm (f26 ((x3 &&& (3 : Int32)).toInt.toNat + 5)) (5 : Int32) ((x2 &&& (2147483647 : Int32)) % (9 : Int32)))) + (own_tm (f26 ((x3 &&& (3 : Int32)).toInt.toNat + 6)) (6 : Int32) ((x2 &&& (2147483647 : Int32)) % (9 : Int32)))) + (own_tm (f26 ((x3 &&& (3 : Int32)).toInt.toNat + 7)) (7 : Int32) ((x2 &&& (2147483647 : Int32)) % (9 : Int32)))) + (own_tm (f26 ((x3 &&& (3 : Int32)).toInt.toNat + 8)) (8 : Int32) ((x2 &&& (2147483647 : Int32)) % (9 : Int32))))), .second] [(.ref b1)]))
  refine own_of (fun _ kk => XS.iload X35.here hx rfl (hb hby at_384) rfl kk) ?_
  show own_Fin _ _ _ _ _ _ _ (T35.setTop (mkF m 386 #[.val (.long x0), .second, .val (.long x1), .second, .val (.int x2), .val (.int x3), .val (.int ((x2 &&& (2147483647 : Int32)) % (9 : Int32))), .val (.int (x3 &&& (3 : Int32))), .val (.ref b1), .val (.long (((((((((own_tm (f26 ((x3 &&& (3 : Int32)).toInt.toNat + 0)) (0 : Int32) ((x2 &&& (2147483647 : Int32)) % (9 : Int32))) + (own_tm (f26 ((x3 &&& (3 : Int32)).toInt.toNat + 1)) (1 : Int32) ((x2 &&& (2147483647 : Int32)) % (9 : Int32)))) + (own_tm (f26 ((x3 &&& (3 : Int32)).toInt.toNat + 2)) (2 : Int32) ((x2 &&& (2147483647 : Int32)) % (9 : Int32)))) + (own_tm (f26 ((x3 &&& (3 : Int32)).toInt.toNat + 3)) (3 : Int32) ((x2 &&& (2147483647 : Int32)) % (9 : Int32)))) + (own_tm (f26 ((x3 &&& (3 : Int32)).toInt.toNat + 4)) (4 : Int32) ((x2 &&& (2147483647 : Int32)) % (9 : Int32)))) + (own_tm (f26 ((x3 &&& (3 : Int32)).toInt.toNat + 5)) (5 : Int32) ((x2 &&& (2147483647 : Int32)) % (9 : Int32)))) + (own_tm (f26 ((x3 &&& (3 : Int32)).toInt.toNat + 6)) (6 : Int32) ((x2 &&& (2147483647 : Int32)) % (9 : Int32)))) + (own_tm (f26 ((x3 &&& (3 : Int32)).toInt.toNat + 7)) (7 : Int32) ((x2 &&& (2147483647 : Int32)) % (9 : Int32)))) + (own_tm (f26 ((x3 &&& (3 : Int32)).toInt.toNat + 8)) (8 : Int32) ((x2 &&& (2147483647 : Int32)) % (9 : Int32))))), .second] [(.int (x3 &&& (3 : Int32))), (.ref b1)]))
  refine own_callS X35 hx hZ hown (hw _ (List.mem_of_getElem? (i := 9) rfl)) (hw _ (List.mem_of_getElem? (i := 10) rfl)) (hw _ (List.mem_of_getElem? (i := 11) rfl)) (hw _ (List.mem_of_getElem? (i := 12) rfl)) (by decide) e35 (argsL := [(.ref b1), (.int (x3 &&& (3 : Int32)))]) (met3 l Z a0 hw b1 (x3 &&& (3 : Int32)) f26 (x3 &&& (3 : Int32)).toInt.toNat ((x2 &&& (2147483647 : Int32)) % (9 : Int32)).toInt.toNat h26 n0 Z26 ((G26 ((x2 &&& (2147483647 : Int32)) % (9 : Int32)).toInt.toNat (by have := (own_kr x2).2; omega)).2 rfl) (fun t ht => (G26 t (by have := (own_kr x2).2; omega)).1 ht) (own_kr x2).2 (by have := (own_kr x2).2; have := (own_at x3).2; omega) (own_at x3).1 A26) (W := 0) (by decide) (by decide) (by decide) (by decide) (by rw [hml]; rfl) pd_1 rfl (rest := []) rfl (Nat.le_of_eq rfl) (hb hby at_386) ?_
  intro v36 T36 h36 L36 X36 e36 q36
  obtain ⟨rfl, qh36, rfl⟩ := q36
  rw [qh36] at e36
  have N36 := Fr.app N35 (Fr.nil n0)
  show own_Fin _ _ _ _ _ _ _ (T36.setTop (mkF m 389 #[.val (.long x0), .second, .val (.long x1), .second, .val (.int x2), .val (.int x3), .val (.int ((x2 &&& (2147483647 : Int32)) % (9 : Int32))), .val (.int (x3 &&& (3 : Int32))), .val (.ref b1), .val (.long (((((((((own_tm (f26 ((x3 &&& (3 : Int32)).toInt.toNat + 0)) (0 : Int32) ((x2 &&& (2147483647 : Int32)) % (9 : Int32))) + (own_tm (f26 ((x3 &&& (3 : Int32)).toInt.toNat + 1)) (1 : Int32) ((x2 &&& (2147483647 : Int32)) % (9 : Int32)))) + (own_tm (f26 ((x3 &&& (3 : Int32)).toInt.toNat + 2)) (2 : Int32) ((x2 &&& (2147483647 : Int32)) % (9 : Int32)))) + (own_tm (f26 ((x3 &&& (3 : Int32)).toInt.toNat + 3)) (3 : Int32) ((x2 &&& (2147483647 : Int32)) % (9 : Int32)))) + (own_tm (f26 ((x3 &&& (3 : Int32)).toInt.toNat + 4)) (4 : Int32) ((x2 &&& (2147483647 : Int32)) % (9 : Int32)))) + (own_tm (f26 ((x3 &&& (3 : Int32)).toInt.toNat + 5)) (5 : Int32) ((x2 &&& (2147483647 : Int32)) % (9 : Int32)))) + (own_tm (f26 ((x3 &&& (3 : Int32)).toInt.toNat + 6)) (6 : Int32) ((x2 &&& (2147483647 : Int32)) % (9 : Int32)))) + (own_tm (f26 ((x3 &&& (3 : Int32)).toInt.toNat + 7)) (7 : Int32) ((x2 &&& (2147483647 : Int32)) % (9 : Int32)))) + (own_tm (f26 ((x3 &&& (3 : Int32)).toInt.toNat + 8)) (8 : Int32) ((x2 &&& (2147483647 : Int32)) % (9 : Int32))))), .second] [(.long (own_acc (fun t => f26 ((x3 &&& (3 : Int32)).toInt.toNat + t)) (((x2 &&& (2147483647 : Int32)) % (9 : Int32)).toInt.toNat + 1)))]))
  refine own_of (fun _ kk => XS.lload X36.here hx rfl (hb hby at_389) rfl kk) ?_
  show own_Fin _ _ _ _ _ _ _ (T36.setTop (mkF m 391 #[.val (.long x0), .second, .val (.long x1), .second, .val (.int x2), .val (.int x3), .val (.int ((x2 &&& (2147483647 : Int32)) % (9 : Int32))), .val (.int (x3 &&& (3 : Int32))), .val (.ref b1), .val (.long (((((((((own_tm (f26 ((x3 &&& (3 : Int32)).toInt.toNat + 0)) (0 : Int32) ((x2 &&& (2147483647 : Int32)) % (9 : Int32))) + (own_tm (f26 ((x3 &&& (3 : Int32)).toInt.toNat + 1)) (1 : Int32) ((x2 &&& (2147483647 : Int32)) % (9 : Int32)))) + (own_tm (f26 ((x3 &&& (3 : Int32)).toInt.toNat + 2)) (2 : Int32) ((x2 &&& (2147483647 : Int32)) % (9 : Int32)))) + (own_tm (f26 ((x3 &&& (3 : Int32)).toInt.toNat + 3)) (3 : Int32) ((x2 &&& (2147483647 : Int32)) % (9 : Int32)))) + (own_tm (f26 ((x3 &&& (3 : Int32)).toInt.toNat + 4)) (4 : Int32) ((x2 &&& (2147483647 : Int32)) % (9 : Int32)))) + (own_tm (f26 ((x3 &&& (3 : Int32)).toInt.toNat + 5)) (5 : Int32) ((x2 &&& (2147483647 : Int32)) % (9 : Int32)))) + (own_tm (f26 ((x3 &&& (3 : Int32)).toInt.toNat + 6)) (6 : Int32) ((x2 &&& (2147483647 : Int32)) % (9 : Int32)))) + (own_tm (f26 ((x3 &&& (3 : Int32)).toInt.toNat + 7)) (7 : Int32) ((x2 &&& (2147483647 : Int32)) % (9 : Int32)))) + (own_tm (f26 ((x3 &&& (3 : Int32)).toInt.toNat + 8)) (8 : Int32) ((x2 &&& (2147483647 : Int32)) % (9 : Int32))))), .second] [(.long (((((((((own_tm (f26 ((x3 &&& (3 : Int32)).toInt.toNat + 0)) (0 : Int32) ((x2 &&& (2147483647 : Int32)) % (9 : Int32))) + (own_tm (f26 ((x3 &&& (3 : Int32)).toInt.toNat + 1)) (1 : Int32) ((x2 &&& (2147483647 : Int32)) % (9 : Int32)))) + (own_tm (f26 ((x3 &&& (3 : Int32)).toInt.toNat + 2)) (2 : Int32) ((x2 &&& (2147483647 : Int32)) % (9 : Int32)))) + (own_tm (f26 ((x3 &&& (3 : Int32)).toInt.toNat + 3)) (3 : Int32) ((x2 &&& (2147483647 : Int32)) % (9 : Int32)))) + (own_tm (f26 ((x3 &&& (3 : Int32)).toInt.toNat + 4)) (4 : Int32) ((x2 &&& (2147483647 : Int32)) % (9 : Int32)))) + (own_tm (f26 ((x3 &&& (3 : Int32)).toInt.toNat + 5)) (5 : Int32) ((x2 &&& (2147483647 : Int32)) % (9 : Int32)))) + (own_tm (f26 ((x3 &&& (3 : Int32)).toInt.toNat + 6)) (6 : Int32) ((x2 &&& (2147483647 : Int32)) % (9 : Int32)))) + (own_tm (f26 ((x3 &&& (3 : Int32)).toInt.toNat + 7)) (7 : Int32) ((x2 &&& (2147483647 : Int32)) % (9 : Int32)))) + (own_tm (f26 ((x3 &&& (3 : Int32)).toInt.toNat + 8)) (8 : Int32) ((x2 &&& (2147483647 : Int32)) % (9 : Int32))))), (.long (own_acc (fun t => f26 ((x3 &&& (3 : Int32)).toInt.toNat + t)) (((x2 &&& (2147483647 : Int32)) % (9 : Int32)).toInt.toNat + 1)))]))
  refine own_of (fun _ kk => XS.lcmp X36.here hx rfl (hb hby at_391) rfl kk) ?_
  show own_Fin _ _ _ _ _ _ _ (T36.setTop (mkF m 392 #[.val (.long x0), .second, .val (.long x1), .second, .val (.int x2), .val (.int x3), .val (.int ((x2 &&& (2147483647 : Int32)) % (9 : Int32))), .val (.int (x3 &&& (3 : Int32))), .val (.ref b1), .val (.long (((((((((own_tm (f26 ((x3 &&& (3 : Int32)).toInt.toNat + 0)) (0 : Int32) ((x2 &&& (2147483647 : Int32)) % (9 : Int32))) + (own_tm (f26 ((x3 &&& (3 : Int32)).toInt.toNat + 1)) (1 : Int32) ((x2 &&& (2147483647 : Int32)) % (9 : Int32)))) + (own_tm (f26 ((x3 &&& (3 : Int32)).toInt.toNat + 2)) (2 : Int32) ((x2 &&& (2147483647 : Int32)) % (9 : Int32)))) + (own_tm (f26 ((x3 &&& (3 : Int32)).toInt.toNat + 3)) (3 : Int32) ((x2 &&& (2147483647 : Int32)) % (9 : Int32)))) + (own_tm (f26 ((x3 &&& (3 : Int32)).toInt.toNat + 4)) (4 : Int32) ((x2 &&& (2147483647 : Int32)) % (9 : Int32)))) + (own_tm (f26 ((x3 &&& (3 : Int32)).toInt.toNat + 5)) (5 : Int32) ((x2 &&& (2147483647 : Int32)) % (9 : Int32)))) + (own_tm (f26 ((x3 &&& (3 : Int32)).toInt.toNat + 6)) (6 : Int32) ((x2 &&& (2147483647 : Int32)) % (9 : Int32)))) + (own_tm (f26 ((x3 &&& (3 : Int32)).toInt.toNat + 7)) (7 : Int32) ((x2 &&& (2147483647 : Int32)) % (9 : Int32)))) + (own_tm (f26 ((x3 &&& (3 : Int32)).toInt.toNat + 8)) (8 : Int32) ((x2 &&& (2147483647 : Int32)) % (9 : Int32))))), .second] [(.int (lcmpW (own_acc (fun t => f26 ((x3 &&& (3 : Int32)).toInt.toNat + t)) (((x2 &&& (2147483647 : Int32)) % (9 : Int32)).toInt.toNat + 1)) (((((((((own_tm (f26 ((x3 &&& (3 : Int32)).toInt.toNat + 0)) (0 : Int32) ((x2 &&& (2147483647 : Int32)) % (9 : Int32))) + (own_tm (f26 ((x3 &&& (3 : Int32)).toInt.toNat + 1)) (1 : Int32) ((x2 &&& (2147483647 : Int32)) % (9 : Int32)))) + (own_tm (f26 ((x3 &&& (3 : Int32)).toInt.toNat + 2)) (2 : Int32) ((x2 &&& (2147483647 : Int32)) % (9 : Int32)))) + (own_tm (f26 ((x3 &&& (3 : Int32)).toInt.toNat + 3)) (3 : Int32) ((x2 &&& (2147483647 : Int32)) % (9 : Int32)))) + (own_tm (f26 ((x3 &&& (3 : Int32)).toInt.toNat + 4)) (4 : Int32) ((x2 &&& (2147483647 : Int32)) % (9 : Int32)))) + (own_tm (f26 ((x3 &&& (3 : Int32)).toInt.toNat + 5)) (5 : Int32) ((x2 &&& (2147483647 : Int32)) % (9 : Int32)))) + (own_tm (f26 ((x3 &&& (3 : Int32)).toInt.toNat + 6)) (6 : Int32) ((x2 &&& (2147483647 : Int32)) % (9 : Int32)))) + (own_tm (f26 ((x3 &&& (3 : Int32)).toInt.toNat + 7)) (7 : Int32) ((x2 &&& (2147483647 : Int32)) % (9 : Int32)))) + (own_tm (f26 ((x3 &&& (3 : Int32)).toInt.toNat + 8)) (8 : Int32) ((x2 &&& (2147483647 : Int32)) % (9 : Int32))))))]))
  refine own_of (fun _ kk => XS.ifNo X36.here hx rfl (hb hby at_392) rfl ((if0 _ _).trans (teq ((lw_eq _ _).mpr (own_finish f26 (x3 &&& (3 : Int32)).toInt.toNat ((x2 &&& (2147483647 : Int32)) % (9 : Int32)) ((x2 &&& (2147483647 : Int32)) % (9 : Int32)).toInt.toNat (own_kr x2).1 (own_kr x2).2))).2) kk) ?_
  show own_Fin _ _ _ _ _ _ _ (T36.setTop (mkF m 395 #[.val (.long x0), .second, .val (.long x1), .second, .val (.int x2), .val (.int x3), .val (.int ((x2 &&& (2147483647 : Int32)) % (9 : Int32))), .val (.int (x3 &&& (3 : Int32))), .val (.ref b1), .val (.long (((((((((own_tm (f26 ((x3 &&& (3 : Int32)).toInt.toNat + 0)) (0 : Int32) ((x2 &&& (2147483647 : Int32)) % (9 : Int32))) + (own_tm (f26 ((x3 &&& (3 : Int32)).toInt.toNat + 1)) (1 : Int32) ((x2 &&& (2147483647 : Int32)) % (9 : Int32)))) + (own_tm (f26 ((x3 &&& (3 : Int32)).toInt.toNat + 2)) (2 : Int32) ((x2 &&& (2147483647 : Int32)) % (9 : Int32)))) + (own_tm (f26 ((x3 &&& (3 : Int32)).toInt.toNat + 3)) (3 : Int32) ((x2 &&& (2147483647 : Int32)) % (9 : Int32)))) + (own_tm (f26 ((x3 &&& (3 : Int32)).toInt.toNat + 4)) (4 : Int32) ((x2 &&& (2147483647 : Int32)) % (9 : Int32)))) + (own_tm (f26 ((x3 &&& (3 : Int32)).toInt.toNat + 5)) (5 : Int32) ((x2 &&& (2147483647 : Int32)) % (9 : Int32)))) + (own_tm (f26 ((x3 &&& (3 : Int32)).toInt.toNat + 6)) (6 : Int32) ((x2 &&& (2147483647 : Int32)) % (9 : Int32)))) + (own_tm (f26 ((x3 &&& (3 : Int32)).toInt.toNat + 7)) (7 : Int32) ((x2 &&& (2147483647 : Int32)) % (9 : Int32)))) + (own_tm (f26 ((x3 &&& (3 : Int32)).toInt.toNat + 8)) (8 : Int32) ((x2 &&& (2147483647 : Int32)) % (9 : Int32))))), .second] []))
  refine own_of (fun _ kk => XS.iconst X36.here hx rfl (hb hby at_395) kk) ?_
  show own_Fin _ _ _ _ _ _ _ (T36.setTop (mkF m 396 #[.val (.long x0), .second, .val (.long x1), .second, .val (.int x2), .val (.int x3), .val (.int ((x2 &&& (2147483647 : Int32)) % (9 : Int32))), .val (.int (x3 &&& (3 : Int32))), .val (.ref b1), .val (.long (((((((((own_tm (f26 ((x3 &&& (3 : Int32)).toInt.toNat + 0)) (0 : Int32) ((x2 &&& (2147483647 : Int32)) % (9 : Int32))) + (own_tm (f26 ((x3 &&& (3 : Int32)).toInt.toNat + 1)) (1 : Int32) ((x2 &&& (2147483647 : Int32)) % (9 : Int32)))) + (own_tm (f26 ((x3 &&& (3 : Int32)).toInt.toNat + 2)) (2 : Int32) ((x2 &&& (2147483647 : Int32)) % (9 : Int32)))) + (own_tm (f26 ((x3 &&& (3 : Int32)).toInt.toNat + 3)) (3 : Int32) ((x2 &&& (2147483647 : Int32)) % (9 : Int32)))) + (own_tm (f26 ((x3 &&& (3 : Int32)).toInt.toNat + 4)) (4 : Int32) ((x2 &&& (2147483647 : Int32)) % (9 : Int32)))) + (own_tm (f26 ((x3 &&& (3 : Int32)).toInt.toNat + 5)) (5 : Int32) ((x2 &&& (2147483647 : Int32)) % (9 : Int32)))) + (own_tm (f26 ((x3 &&& (3 : Int32)).toInt.toNat + 6)) (6 : Int32) ((x2 &&& (2147483647 : Int32)) % (9 : Int32)))) + (own_tm (f26 ((x3 &&& (3 : Int32)).toInt.toNat + 7)) (7 : Int32) ((x2 &&& (2147483647 : Int32)) % (9 : Int32)))) + (own_tm (f26 ((x3 &&& (3 : Int32)).toInt.toNat + 8)) (8 : Int32) ((x2 &&& (2147483647 : Int32)) % (9 : Int32))))), .second] [(.int (1 : Int32))]))
  refine own_of (fun _ kk => XS.goto X36.here hx rfl (pc0 := 396) (pc' := 400) rfl (hb hby at_396) (by decide) (by decide) kk) ?_
  show own_Fin _ _ _ _ _ _ _ (T36.setTop (mkF m 400 #[.val (.long x0), .second, .val (.long x1), .second, .val (.int x2), .val (.int x3), .val (.int ((x2 &&& (2147483647 : Int32)) % (9 : Int32))), .val (.int (x3 &&& (3 : Int32))), .val (.ref b1), .val (.long (((((((((own_tm (f26 ((x3 &&& (3 : Int32)).toInt.toNat + 0)) (0 : Int32) ((x2 &&& (2147483647 : Int32)) % (9 : Int32))) + (own_tm (f26 ((x3 &&& (3 : Int32)).toInt.toNat + 1)) (1 : Int32) ((x2 &&& (2147483647 : Int32)) % (9 : Int32)))) + (own_tm (f26 ((x3 &&& (3 : Int32)).toInt.toNat + 2)) (2 : Int32) ((x2 &&& (2147483647 : Int32)) % (9 : Int32)))) + (own_tm (f26 ((x3 &&& (3 : Int32)).toInt.toNat + 3)) (3 : Int32) ((x2 &&& (2147483647 : Int32)) % (9 : Int32)))) + (own_tm (f26 ((x3 &&& (3 : Int32)).toInt.toNat + 4)) (4 : Int32) ((x2 &&& (2147483647 : Int32)) % (9 : Int32)))) + (own_tm (f26 ((x3 &&& (3 : Int32)).toInt.toNat + 5)) (5 : Int32) ((x2 &&& (2147483647 : Int32)) % (9 : Int32)))) + (own_tm (f26 ((x3 &&& (3 : Int32)).toInt.toNat + 6)) (6 : Int32) ((x2 &&& (2147483647 : Int32)) % (9 : Int32)))) + (own_tm (f26 ((x3 &&& (3 : Int32)).toInt.toNat + 7)) (7 : Int32) ((x2 &&& (2147483647 : Int32)) % (9 : Int32)))) + (own_tm (f26 ((x3 &&& (3 : Int32)).toInt.toNat + 8)) (8 : Int32) ((x2 &&& (2147483647 : Int32)) % (9 : Int32))))), .second] [(.int (1 : Int32))]))
  exact own_retN X36 hx hlk e36 (t := .boolean) hret (by simp) (hb hby at_400) (by decide) (by decide) (z' := (1 : Int32)) (by decide) ⟨rfl, N36⟩
set_option maxRecDepth 65536 in
set_option maxHeartbeats 40000000 in
theorem comes_1 {Post : Tables → Env → Array Value → State → Outcome → State → Prop} (hpost : ∀ tb e args s v u, (limb_1_1.after args s (.returned v) u = true ∧ limb_1_2.after args s (.returned v) u = true ∧ True) → FrameEnd s (.returned v) u (Jvm.fieldLocs frame_1_writes args s ++ Jvm.arrayLocs frame_1_arrays args s ++ Jvm.staticLocs frame_1_statics s) 16 128 → Post tb e args s (.returned v) u) :
    ArmFor flags0 classFile x code maxLocals ret World_1 tables_1 room_1 Calls_1 rest_1 Pre_1 Post := by
  intro l hfl _ _ p e ha hc hk s m args below hf hA hF happ hP
  obtain ⟨hcalls, hrest, hpre⟩ := hP
  obtain ⟨-, -, -, hnamed, -, -, -, hat⟩ := (Spec.applies_iff hf).mp happ
  obtain ⟨hg, hn⟩ := and_e (Cond.before_iff.mp (show (Jvm.Cond.and given_1 narrow_1).before args s = true from hpre))
  obtain ⟨g1, g2⟩ := and_e hg
  obtain ⟨g3, g4⟩ := and_e g2
  obtain ⟨g5, g6⟩ := and_e g4
  obtain ⟨g7, g8⟩ := and_e g6
  obtain ⟨w0, w1, w2, w3, rfl⟩ : ∃ w0 w1 w2 w3 : Value, args = #[w0, w1, w2, w3] := by
    have hs : args.size = 4 := by simpa [Cond.value, given_1] using g1
    obtain ⟨L⟩ := args
    match L, hs with
    | [w0, w1, w2, w3], _ => exact ⟨w0, w1, w2, w3, rfl⟩
  have hw := fun d (hd : d ∈ tables_1) => atoms_spec (ws := Jvm.Cond.code x code maxLocals ret :: tables_1) hat d (List.mem_cons_of_mem _ hd)
  obtain ⟨i0, ei0⟩ := isL_v g3
  obtain rfl : w0 = (.long i0) := Option.some.inj ei0
  obtain ⟨i1, ei1⟩ := isL_v g5
  obtain rfl : w1 = (.long i1) := Option.some.inj ei1
  obtain ⟨i2, ei2⟩ := is_v g7
  obtain rfl : w2 = (.int i2) := Option.some.inj ei2
  obtain ⟨i3, ei3⟩ := is_v g8
  obtain rfl : w3 = (.int i3) := Option.some.inj ei3
  obtain ⟨n, o, h1, h2, h3, _, L, rfl, ⟨rfl, N⟩, hq⟩ := own_law l s _ hw i0 i1 i2 i3 s.heap s.heap.size (Nat.le_refl _) tables_1 p e ha hc hk s m _ below hf ((Spec.applies_iff_loose hf).mp happ).1 ⟨rfl, State.Warmed39.refl s, rfl⟩ trivial
  refine ⟨n, _, h1, h2, h3, hpost _ _ _ _ _ _ ⟨Cond.after_iff.mpr rfl, Cond.after_iff.mpr (eq_i res_at (Term.int_eval (1)) rfl), trivial⟩ ⟨hq.1, hq.2.1, (hq.2.2.sift fun y hy => Or.inr (N y hy)).mono (by decide) (by decide)⟩⟩
theorem main_1_1 : Claimed_1_1 := comes_1 fun _ _ _ _ _ _ h hF => ⟨h.1, hF⟩
theorem main_1_2 : Claimed_1_2 := comes_1 fun _ _ _ _ _ _ h hF => ⟨h.2.1, hF⟩
end Jvm.Pilot.@@N@@
namespace Jvm.Pilot.@@N@@
open Jvm Jvm.ClassFile Sem Op Lib Jvm.Free Jvm.Stand Jvm.Pilot.@@N@@.Jvm.D
/-! MADE BY PROGRAM (witnessworld.py) out of the Statement's table words and the real class files: 11 classes; the members and pool entries that the words name. The judged class is class 1, her method 1. -/
namespace start1
open Jvm.ClassFile
def u (s : String) : CpInfo := .utf8 (stringToUtf16 s)
/-- a pool by its gaps: so many unusable entries, then the entry; so many at the end -/
def gap : Nat → List CpInfo → List CpInfo
  | 0, r => r
  | n + 1, r => .unusable :: gap n r
def poolList (es : List (Nat × CpInfo)) (last : Nat) : List CpInfo := es.foldr (fun e r => gap e.1 (e.2 :: r)) (gap last [])
def pool (es : List (Nat × CpInfo)) (last : Nat) : Array CpInfo := ⟨poolList es last⟩
def fileOf (pool : Array CpInfo) (this : Nat) (attrs : Array Attribute := #[]) (ms : Array MethodInfo := #[]) (fl : Nat := 33) (sup : Nat := 0) (ifs : Array Nat := #[]) (fds : Array FieldInfo := #[]) : ClassFile where
  minorVersion := 0
  majorVersion := 65
  constantPool := pool
  accessFlags := fl
  thisClass := this
  superClass := sup
  interfaces := ifs
  fields := fds
  methods := ms
  attributes := attrs
def plain (name : String) (sup : Option ClassId) : Class where
  name := name
  kind := .ordinary
  loader := none
  accessFlags := 33
  super := sup
  interfaces := #[]
  cf := none
  fields := #[]
  methods := #[]
  instanceTypes := #[]
  staticTypes := #[]
  resolved := #[]
  callSites := []
  init := .initialized
  statics := none
  mirror := none

def pool0 : Array CpInfo := pool [(5, u "<init>"), (0, u "()V"), (1, .class_ 10), (1, u "java/lang/Object")] 113

def k0m0 : Method := { name := "<init>", desc := "()V", sig := { parameters := [], returnType := none }, accessFlags := 1, code := none }
/-- java/lang/Object -/
def k0 : Class := { plain "java/lang/Object" none with
  accessFlags := 33
  interfaces := #[]
  cf := some (fileOf pool0 8 #[] #[{ accessFlags := 1, nameIndex := 5, descriptorIndex := 6, attributes := #[] }] 33 0 #[] #[])
  fields := #[]
  methods := #[k0m0]
  instanceTypes := #[]
  staticTypes := #[]
  resolved := Array.replicate 124 none
  statics := none }

def pool1 : Array CpInfo := pool [(2, .class_ 4), (1, u "java/lang/Object"), (0, u "<init>"), (0, u "()V"), (0, .integer 2147483647), (0, .methodref 9 10), (0, .class_ 11), (0, .nameAndType 12 13), (0, u "com/example/vestwright/vestwright/csv/ExternalSortVarLongAtPinLaw"), (0, u "mark"), (0, u "([BIII)V"), (0, .methodref 9 15), (0, .nameAndType 16 17), (0, u "term"), (0, u "([BIII)J"), (0, .methodref 19 20), (0, .class_ 21), (0, .nameAndType 22 23), (0, u "com/example/vestwright/vestwright/csv/ExternalSort"), (0, u "varLongAt"), (0, u "([BI)J"), (2, u "law"), (0, u "(JJII)Z")] 5

def k1m0 : Method := { name := "<init>", desc := "()V", sig := { parameters := [], returnType := none }, accessFlags := 1, code := none }
def k1c1 : Code := { maxStack := 6, maxLocals := 11, code := code, exceptionTable := #[], attributes := #[] }
def k1m1 : Method := { name := "law", desc := "(JJII)Z", sig := { parameters := [.long, .long, .int, .int], returnType := some .boolean }, accessFlags := 9, code := some k1c1 }
def k1c2 : Code := { maxStack := 5, maxLocals := 4, code := method_3_code, exceptionTable := #[], attributes := #[] }
def k1m2 : Method := { name := "mark", desc := "([BIII)V", sig := { parameters := [(.array .byte), .int, .int, .int], returnType := none }, accessFlags := 10, code := some k1c2 }
def k1c3 : Code := { maxStack := 4, maxLocals := 4, code := method_4_code, exceptionTable := #[], attributes := #[] }
def k1m3 : Method := { name := "term", desc := "([BIII)J", sig := { parameters := [(.array .byte), .int, .int, .int], returnType := some .long }, accessFlags := 10, code := some k1c3 }
/-- com/example/vestwright/vestwright/csv/ExternalSortVarLongAtPinLaw -/
def k1 : Class := { plain "com/example/vestwright/vestwright/csv/ExternalSortVarLongAtPinLaw" (some 0) with
  accessFlags := 49
  interfaces := #[]
  cf := some (fileOf pool1 9 #[] #[{ accessFlags := 1, nameIndex := 5, descriptorIndex := 6, attributes := #[] }, { accessFlags := 9, nameIndex := 26, descriptorIndex := 27, attributes := #[] }, { accessFlags := 10, nameIndex := 12, descriptorIndex := 13, attributes := #[] }, { accessFlags := 10, nameIndex := 16, descriptorIndex := 17, attributes := #[] }] 49 2 #[] #[])
  fields := #[]
  methods := #[k1m0, k1m1, k1m2, k1m3]
  instanceTypes := #[]
  staticTypes := #[]
  resolved := Array.replicate 33 none
  statics := none }

def pool2 : Array CpInfo := pool [(1, .class_ 2), (0, u "java/lang/AutoCloseable"), (0, .class_ 4), (0, u "java/lang/Object")] 7

/-- java/lang/AutoCloseable -/
def k2 : Class := { plain "java/lang/AutoCloseable" (some 0) with
  accessFlags := 1537
  interfaces := #[]
  cf := some (fileOf pool2 1 #[] #[] 1537 3 #[] #[])
  fields := #[]
  methods := #[]
  instanceTypes := #[]
  staticTypes := #[]
  resolved := Array.replicate 12 none
  statics := none }

def pool3 : Array CpInfo := pool [(1, .class_ 2), (0, u "java/io/Closeable"), (0, .class_ 4), (0, u "java/lang/Object"), (0, .class_ 6), (0, u "java/lang/AutoCloseable")] 7

/-- java/io/Closeable -/
def k3 : Class := { plain "java/io/Closeable" (some 0) with
  accessFlags := 1537
  interfaces := #[2]
  cf := some (fileOf pool3 1 #[] #[] 1537 3 #[5] #[])
  fields := #[]
  methods := #[]
  instanceTypes := #[]
  staticTypes := #[]
  resolved := Array.replicate 14 none
  statics := none }

def pool4 : Array CpInfo := pool [(2, .class_ 4), (1, u "java/lang/Object"), (6, .class_ 13), (1, u "com/example/vestwright/vestwright/csv/ExternalSort"), (0, u "files"), (0, u "Ljava/util/List;"), (2, u "buffer"), (2, u "runs"), (2, u "order"), (0, u "Ljava/util/Comparator;"), (2, u "format"), (0, u "Lcom/example/vestwright/vestwright/csv/ExternalSort$Format;"), (2, u "weight"), (0, u "Ljava/util/function/ToLongFunction;"), (2, u "budget"), (0, u "J"), (2, u "fanIn"), (0, u "I"), (2, u "prefix"), (0, u "Ljava/lang/String;"), (8, u "held"), (18, u "open"), (0, u "Lcom/example/vestwright/vestwright/csv/ExternalSort$OpenRun;"), (4, .class_ 80), (0, u "com/example/vestwright/vestwright/csv/ExternalSort$Listed"), (34, .class_ 116), (0, u "com/example/vestwright/vestwright/csv/ExternalSort$Run"), (4, .class_ 122), (0, u "com/example/vestwright/vestwright/csv/ExternalSort$Merge"), (16, .class_ 140), (0, u "com/example/vestwright/vestwright/csv/ExternalSort$Ahead"), (11, .class_ 153), (0, u "com/example/vestwright/vestwright/csv/ExternalSort$Output"), (6, .class_ 162), (1, u "com/example/vestwright/vestwright/csv/ExternalSort$Format"), (45, .class_ 210), (1, u "com/example/vestwright/vestwright/csv/ExternalSort$OpenRun"), (53, u "BIG_ENDIAN_LONG"), (0, u "Ljava/lang/invoke/VarHandle;"), (4, u "([BI)J"), (7, .class_ 279), (0, u "com/example/vestwright/vestwright/csv/ExternalSort$InOrder"), (20, .class_ 301), (0, u "java/io/Closeable"), (0, u "BUFFER"), (2, u "VAR_LONG_BITS"), (1, u "MOST_VAR_LONG_BYTES"), (1, u "MORE"), (36, u "varLongAt"), (10, .class_ 358), (0, u "com/example/vestwright/vestwright/csv/ExternalSort$RunReader"), (0, .class_ 360), (0, u "com/example/vestwright/vestwright/csv/ExternalSort$Input")] 38

def k4c0 : Code := { maxStack := 5, maxLocals := 6, code := prog_18_method_18_code, exceptionTable := #[], attributes := #[] }
def k4m0 : Method := { name := "varLongAt", desc := "([BI)J", sig := { parameters := [(.array .byte), .int], returnType := some .long }, accessFlags := 8, code := some k4c0 }
/-- com/example/vestwright/vestwright/csv/ExternalSort -/
def k4 : Class := { plain "com/example/vestwright/vestwright/csv/ExternalSort" (some 0) with
  accessFlags := 48
  interfaces := #[3]
  cf := some (fileOf pool4 11 #[.nestMembers #[79, 139, 121, 357, 208, 115, 359, 152, 278, 160]] #[{ accessFlags := 8, nameIndex := 346, descriptorIndex := 270, attributes := #[] }] 48 2 #[300] #[{ accessFlags := 26, nameIndex := 302, descriptorIndex := 41, attributes := #[] }, { accessFlags := 26, nameIndex := 264, descriptorIndex := 265, attributes := #[] }, { accessFlags := 26, nameIndex := 305, descriptorIndex := 41, attributes := #[] }, { accessFlags := 26, nameIndex := 307, descriptorIndex := 41, attributes := #[] }, { accessFlags := 26, nameIndex := 309, descriptorIndex := 41, attributes := #[] }, { accessFlags := 18, nameIndex := 24, descriptorIndex := 25, attributes := #[] }, { accessFlags := 18, nameIndex := 28, descriptorIndex := 29, attributes := #[] }, { accessFlags := 18, nameIndex := 32, descriptorIndex := 33, attributes := #[] }, { accessFlags := 18, nameIndex := 36, descriptorIndex := 37, attributes := #[] }, { accessFlags := 18, nameIndex := 40, descriptorIndex := 41, attributes := #[] }, { accessFlags := 18, nameIndex := 44, descriptorIndex := 45, attributes := #[] }, { accessFlags := 18, nameIndex := 14, descriptorIndex := 15, attributes := #[] }, { accessFlags := 18, nameIndex := 18, descriptorIndex := 15, attributes := #[] }, { accessFlags := 18, nameIndex := 21, descriptorIndex := 15, attributes := #[] }, { accessFlags := 2, nameIndex := 54, descriptorIndex := 37, attributes := #[] }, { accessFlags := 2, nameIndex := 73, descriptorIndex := 74, attributes := #[] }])
  fields := #[{ name := "BUFFER", type := .int, accessFlags := 26, slot := 0, constantValue := 0 }, { name := "BIG_ENDIAN_LONG", type := (.object "java/lang/invoke/VarHandle"), accessFlags := 26, slot := 1, constantValue := 0 }, { name := "VAR_LONG_BITS", type := .int, accessFlags := 26, slot := 2, constantValue := 0 }, { name := "MOST_VAR_LONG_BYTES", type := .int, accessFlags := 26, slot := 3, constantValue := 0 }, { name := "MORE", type := .int, accessFlags := 26, slot := 4, constantValue := 0 }, { name := "order", type := (.object "java/util/Comparator"), accessFlags := 18, slot := 0, constantValue := 0 }, { name := "format", type := (.object "com/example/vestwright/vestwright/csv/ExternalSort$Format"), accessFlags := 18, slot := 1, constantValue := 0 }, { name := "weight", type := (.object "java/util/function/ToLongFunction"), accessFlags := 18, slot := 2, constantValue := 0 }, { name := "budget", type := .long, accessFlags := 18, slot := 3, constantValue := 0 }, { name := "fanIn", type := .int, accessFlags := 18, slot := 4, constantValue := 0 }, { name := "prefix", type := (.object "java/lang/String"), accessFlags := 18, slot := 5, constantValue := 0 }, { name := "files", type := (.object "java/util/List"), accessFlags := 18, slot := 6, constantValue := 0 }, { name := "buffer", type := (.object "java/util/List"), accessFlags := 18, slot := 7, constantValue := 0 }, { name := "runs", type := (.object "java/util/List"), accessFlags := 18, slot := 8, constantValue := 0 }, { name := "held", type := .long, accessFlags := 2, slot := 9, constantValue := 0 }, { name := "open", type := (.object "com/example/vestwright/vestwright/csv/ExternalSort$OpenRun"), accessFlags := 2, slot := 10, constantValue := 0 }]
  methods := #[k4m0]
  instanceTypes := #[(.object "java/util/Comparator"), (.object "com/example/vestwright/vestwright/csv/ExternalSort$Format"), (.object "java/util/function/ToLongFunction"), .long, .int, (.object "java/lang/String"), (.object "java/util/List"), (.object "java/util/List"), (.object "java/util/List"), .long, (.object "com/example/vestwright/vestwright/csv/ExternalSort$OpenRun")]
  staticTypes := #[.int, (.object "java/lang/invoke/VarHandle"), .int, .int, .int]
  resolved := Array.replicate 399 none
  statics := none }

def pool5 : Array CpInfo := pool [(1, u "java/lang/Cloneable"), (0, .class_ 1), (0, u "java/lang/Object"), (0, .class_ 3)] 3

/-- java/lang/Cloneable -/
def k5 : Class := { plain "java/lang/Cloneable" (some 0) with
  accessFlags := 1537
  interfaces := #[]
  cf := some (fileOf pool5 2 #[] #[] 1537 4 #[] #[])
  fields := #[]
  methods := #[]
  instanceTypes := #[]
  staticTypes := #[]
  resolved := Array.replicate 8 none
  statics := none }

def pool6 : Array CpInfo := pool [(1, u "java/io/Serializable"), (0, .class_ 1), (0, u "java/lang/Object"), (0, .class_ 3)] 3

/-- java/io/Serializable -/
def k6 : Class := { plain "java/io/Serializable" (some 0) with
  accessFlags := 1537
  interfaces := #[]
  cf := some (fileOf pool6 2 #[] #[] 1537 4 #[] #[])
  fields := #[]
  methods := #[]
  instanceTypes := #[]
  staticTypes := #[]
  resolved := Array.replicate 8 none
  statics := none }

/-- the primitive byte -/
def k7 : Class := { plain "byte" none with kind := .primitive 'B', accessFlags := 0x411 }
/-- [B -/
def k8 : Class := { plain "[B" (some 0) with kind := .array 7 .byte, interfaces := #[5, 6], accessFlags := 1041 }

/-- the primitive int -/
def k9 : Class := { plain "int" none with kind := .primitive 'I', accessFlags := 0x411 }
/-- [I -/
def k10 : Class := { plain "[I" (some 0) with kind := .array 9 .int, interfaces := #[5, 6], accessFlags := 1041 }

def heap : Heap := #[]
def classes : Array Class := #[k0, k1, k2, k3, k4, k5, k6, k7, k8, k9, k10]
def interned : List (Array UInt16 × Addr) := []
def slotsUsed : Nat := 0
def theMethod : MethodId := ⟨1, 1⟩
def args0 : Array Value := #[.long 5, .long 7, .int 1, .int 2]
def aboutOver (below : List Frame) : State where
  vm := { classes := classes, interned := interned.toArray }
  heap := heap
  slotsUsed := slotsUsed
  threads := #[{ frames := .invoking theMethod args0 :: below }]
def below0 : List Frame := [.native { method := ⟨0, 0⟩, args := #[] }]
def about1 : State := aboutOver below0
def p0 : Program := .bare "" "" ""
def e0 : Env := launch0.env 0 0 0
theorem w_frames : about1.frames = Frame.invoking theMethod args0 :: below0 := rfl
set_option maxRecDepth 65536 in
theorem w_args : argsFit about1.vm theMethod args0 = true := by decide +kernel
set_option maxRecDepth 65536 in
theorem w_heap : heapFits about1 = true := by decide +kernel
set_option maxRecDepth 65536 in
theorem w_runnable : about1.curStatus? = some .runnable := by decide +kernel
set_option maxRecDepth 65536 in
theorem w_alone : about1.alone = true := by decide +kernel
set_option maxRecDepth 65536 in
theorem w_named : about1.methodNamed? x = some theMethod := by decide +kernel
set_option maxRecDepth 65536 in
theorem w_hears : about1.hears theMethod below0 = true := by decide +kernel
set_option maxRecDepth 65536 in
theorem w_ripe : about1.ripe theMethod args0 below0 = true := by decide +kernel
theorem w_running : about1.status = .running := rfl
set_option maxRecDepth 65536 in
theorem w_room : about1.hasRoom e0.platform room_1 = true :=
  launch0.hasRoom_least _ room_1 (by decide +kernel) (by decide +kernel) (by decide +kernel) (by decide +kernel) (by decide +kernel) (by decide +kernel)
theorem allAtoms_all (ts : List Jvm.Cond) (a : Array Jvm.Value) (st : Jvm.State) : (allAtoms ts).before a st = ts.all (fun c => c.before a st) := by
  induction ts with
  | nil => rfl
  | cons c t ih =>
    show (Jvm.Cond.and c (allAtoms t)).before a st = _
    rw [Jvm.Cond.before_and, ih, List.all_cons]
def words1 : List Jvm.Cond := Jvm.Cond.code x code maxLocals ret :: tables_1
/-- a 'code' word, met by the world's own term for the bytes: nothing is compared byte by byte -/
theorem code_word {y : MethodName} {bytes : ByteArray} {mx : Nat} {rt : Option FieldType} {a : Array Value} {s : State} {m : MethodId} {meth : Method} {c : Code} (h1 : s.methodNamed? y = some m) (h2 : s.vm.method? m = some meth) (h3 : meth.code = some c) (h4 : c.code = bytes)
    (h5 : (c.maxLocals == mx && c.exceptionTable.isEmpty && decide (c.maxStack ≤ mostOperands) && decide (meth.sig.returnType = rt) && !meth.locks && decide (parseMethodDescriptor y.desc = some meth.sig)) = true) : (Jvm.Cond.code y bytes mx rt).before a s = true := by
  simp only [Bool.and_eq_true, beq_iff_eq, Bool.not_eq_true', decide_eq_true_eq] at h5
  obtain ⟨⟨⟨⟨⟨g1, g2⟩, g3⟩, g4⟩, g5⟩, g6⟩ := h5
  simp [Cond.before, Cond.holds, Cond.value, h1, h2, h3, h4, g1, g2, g3, g4, g5, g6]
def isCode : Jvm.Cond → Bool
  | .code _ _ _ _ => true
  | _ => false
theorem all_split {L : List Jvm.Cond} {P : Jvm.Cond → Bool} (h1 : L.all (fun c => isCode c || P c) = true) (h2 : ∀ c ∈ L.filter isCode, P c = true) : L.all P = true := by
  refine List.all_eq_true.mpr fun c hc => ?_
  have h := List.all_eq_true.mp h1 c hc
  rcases Bool.eq_false_or_eq_true (isCode c) with hi | hi
  · exact h2 c (List.mem_filter.mpr ⟨hc, hi⟩)
  · simpa [hi] using h
set_option maxRecDepth 65536 in
theorem w_c0 : (Jvm.Cond.code x code maxLocals ret).before args0 about1 = true := code_word (m := ⟨1, 1⟩) (meth := k1m1) (c := k1c1) (by decide +kernel) rfl rfl rfl (by decide +kernel)
set_option maxRecDepth 65536 in
theorem w_c1 : (Jvm.Cond.code ({ cls := "com/example/vestwright/vestwright/csv/ExternalSortVarLongAtPinLaw", name := "mark", desc := "([BIII)V" } : Jvm.MethodName) method_3_code (4 : Nat) (Option.none : Option Jvm.ClassFile.FieldType)).before args0 about1 = true := code_word (m := ⟨1, 2⟩) (meth := k1m2) (c := k1c2) (by decide +kernel) rfl rfl rfl (by decide +kernel)
set_option maxRecDepth 65536 in
theorem w_c2 : (Jvm.Cond.code ({ cls := "com/example/vestwright/vestwright/csv/ExternalSortVarLongAtPinLaw", name := "term", desc := "([BIII)J" } : Jvm.MethodName) method_4_code (4 : Nat) (Option.some Jvm.ClassFile.FieldType.long)).before args0 about1 = true := code_word (m := ⟨1, 3⟩) (meth := k1m3) (c := k1c3) (by decide +kernel) rfl rfl rfl (by decide +kernel)
set_option maxRecDepth 65536 in
theorem w_c3 : (Jvm.Cond.code ({ cls := "com/example/vestwright/vestwright/csv/ExternalSort", name := "varLongAt", desc := "([BI)J" } : Jvm.MethodName) prog_18_method_18_code (6 : Nat) (Option.some Jvm.ClassFile.FieldType.long)).before args0 about1 = true := code_word (m := ⟨4, 0⟩) (meth := k4m0) (c := k4c0) (by decide +kernel) rfl rfl rfl (by decide +kernel)
def codes1 : List Jvm.Cond := [Jvm.Cond.code x code maxLocals ret, Jvm.Cond.code ({ cls := "com/example/vestwright/vestwright/csv/ExternalSortVarLongAtPinLaw", name := "mark", desc := "([BIII)V" } : Jvm.MethodName) method_3_code (4 : Nat) (Option.none : Option Jvm.ClassFile.FieldType), Jvm.Cond.code ({ cls := "com/example/vestwright/vestwright/csv/ExternalSortVarLongAtPinLaw", name := "term", desc := "([BIII)J" } : Jvm.MethodName) method_4_code (4 : Nat) (Option.some Jvm.ClassFile.FieldType.long), Jvm.Cond.code ({ cls := "com/example/vestwright/vestwright/csv/ExternalSort", name := "varLongAt", desc := "([BI)J" } : Jvm.MethodName) prog_18_method_18_code (6 : Nat) (Option.some Jvm.ClassFile.FieldType.long)]
set_option maxRecDepth 65536 in
theorem codes_eq : words1.filter isCode = codes1 := rfl
theorem w_codes : ∀ c ∈ words1.filter isCode, c.before args0 about1 = true := by
  rw [codes_eq]
  intro c hc
  simp only [codes1, List.mem_cons, List.not_mem_nil, or_false] at hc
  rcases hc with rfl | rfl | rfl | rfl
  · exact w_c0
  · exact w_c1
  · exact w_c2
  · exact w_c3
set_option maxRecDepth 65536 in
theorem w_t1 : words1.all (fun c => isCode c || c.before args0 about1) = true := by decide +kernel
theorem w_tables : (allAtoms (Jvm.Cond.code x code maxLocals ret :: tables_1)).before args0 about1 = true := by
  rw [allAtoms_all]
  show words1.all (fun c => c.before args0 about1) = true
  refine all_split ?_ w_codes
  rw [w_t1]
set_option maxRecDepth 65536 in
theorem w_case : (Jvm.Cond.and given_1 narrow_1).before args0 about1 = true := by decide +kernel
theorem w_applies : (headSpec (Jvm.Cond.code x code maxLocals ret :: tables_1) room_1).applies x e0.platform about1 = true :=
  (Spec.applies_iff w_frames).mpr ⟨w_running, w_runnable, w_alone, w_named, w_hears, w_ripe, w_room, w_tables⟩
theorem atStart : AtStart classFile x code maxLocals ret World_1 tables_1 room_1 Calls_1 rest_1 Pre_1 launch0 p0 e0 about1 theMethod args0 below0 :=
  ⟨lists_1, trivial, launch0.admits_env _ _ _, launch0.least_env, fairChoices_fair.cas, fairChoices_fair.clock, w_frames, w_args, w_heap, w_applies, trivial, trivial, w_case⟩
end start1
theorem witness_1 : WitnessClaimed_1 := ⟨start1.p0, start1.e0, start1.about1, start1.theMethod, start1.args0, start1.below0, start1.atStart⟩
end Jvm.Pilot.@@N@@
