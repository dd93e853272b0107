import JvmDerived
import JvmDerived.Pilot.@@N@@Statement
import JvmDerived.Pilot.@@N@@Code
set_option linter.unusedVariables false
set_option linter.unusedSimpArgs false
namespace Jvm.RoadKit
open Sem ClassFile Op Lib Jvm.Stand Jvm.Free Jvm.LawKit
section OwnKit
variable {p : Program} {l : Launch} {e : Env} {R : Room} {s : State} {m : MethodId} {args : Array Value} {below : List Frame} {meth : Method} {c : Code} {T : State} {locs : List Loc} {cells slots : Nat} {Z : State} {a0 : Array Value} {h h' : Heap} {a b : Addr}
variable {C N : Nat} {Q : Option Value → Heap → List Loc → Prop} {pc : Nat} {Ls : Array Slot} {rest : List Value}
/-- from the state A the invocation returns, with what Q says of the value, the heap and the places written -/
def own_Fin (p : Program) (e : Env) (below : List Frame) (s : State) (C N : Nat) (Q : Option Value → Heap → List Loc → Prop) (A : State) : Prop :=
  ∃ s₂ o, Steps p.tables e below A s₂ ∧ s₂.status = .running ∧ Ended s₂ below o ∧ ∃ v L, o = .returned v ∧ Q v s₂.heap L ∧ FrameEnd s o s₂ L C N
theorem own_of {A B : State} (st : ∀ t, Steps p.tables e below B t → Steps p.tables e below A t) (k : own_Fin p e below s C N Q B) : own_Fin p e below s C N Q A := by
  obtain ⟨s₂, o, h1, h2⟩ := k
  exact ⟨s₂, o, st _ h1, h2⟩
theorem own_mono {Q' : Option Value → Heap → List Loc → Prop} {A : State} (hq : ∀ v h L, Q v h L → Q' v h L) (k : own_Fin p e below s C N Q A) : own_Fin p e below s C N Q' A := by
  obtain ⟨s₂, o, h1, h2, h3, v, L, h4, h5, h6⟩ := k
  exact ⟨s₂, o, h1, h2, h3, v, L, h4, hq _ _ _ h5, h6⟩
/-- a body's contract: called with as' over the heap h0 it returns, and Q holds -/
def own_Met (l : Launch) (Z : State) (y : MethodName) (bytes : ByteArray) (maxL : Nat) (ret : Option FieldType) (rm : Room) (as' : Array Value) (h0 : Heap) (Q : Option Value → Heap → List Loc → Prop) : Prop :=
  ∀ ws : List Cond, MetFree l y (head1 (Cond.code y bytes maxL ret :: ws) rm) (fun a U => a = as' ∧ Z.Warmed39 U.vm ∧ U.heap = h0) (fun _ _ _ _ _ => True) (fun _ U o U' => ∃ v L, o = .returned v ∧ Q v U'.heap L ∧ FrameEnd U o U' L rm.cells rm.slots)
theorem own_met {y : MethodName} {bytes : ByteArray} {maxL : Nat} {ret : Option FieldType} {rm : Room} {as' : Array Value} {h0 : Heap} (hpl : plainFor y = true)
    (body : ∀ (p : Program) (e : Env) (s : State) (m : MethodId) (below : List Frame) (meth : Method) (c : Code) (T : State), Stand p l e rm s m as' below meth c T [] 0 0 → p.tables.exec = Jvm.exec → c.code = bytes → c.maxLocals = maxL → s.vm.findClass y.cls = some m.cls → Z.Warmed39 s.vm → T.heap = h0 → meth.sig.returnType = ret → meth.locks = false → meth.name = y.name →
      own_Fin p e below s rm.cells rm.slots Q (T.setTop (entryFrame m as' maxL))) : own_Met l Z y bytes maxL ret rm as' h0 Q := by
  intro ws
  refine MetFree.of_bodySF hpl hisR ?_
  intro p e s m args below meth c s₁ Bd hml0 hP hK
  obtain ⟨rfl, hZ, hh⟩ := hP
  have X0 : Stand p l e rm s m _ below meth c s₁ [] 0 0 := Stand.of_body Bd
  exact body p e s m below meth c s₁ X0 Bd.exec Bd.bytes hml0 (findClass_of_methodNamed Bd.named) hZ (by rw [← hh, Bd.state]; rfl) Bd.returns Bd.notSynchronized (name_of_methodNamed Bd.named Bd.method).1
/-! returns -/
theorem own_retI (X : Stand p l e R s m args below meth c T locs cells slots) (hx : p.tables.exec = Jvm.exec) (hlk : meth.locks = false) (eT : T.heap = h) {z : Int32} (hret : meth.sig.returnType = some .int) (hd : decode c.code pc = .ok (.ireturn, 1)) (hC : cells ≤ C) (hN : slots ≤ N) (hQ : Q (some (.int z)) h locs) :
    own_Fin p e below s C N Q (T.setTop (mkF m pc Ls (.int z :: rest))) := by
  obtain ⟨fs, hr, hrun, hended, hW, hsame⟩ := X.leave (v := some (.int z)) (fun h => by rw [hret] at h; cases h) hlk
  exact ⟨_, _, retOut X hx hret rfl (Or.inl ⟨rfl, Or.inl rfl, _, rfl⟩) hd hr, hrun, hended, _, _, rfl, (by show Q _ T.heap _; rw [eT]; exact hQ), ⟨_, rfl⟩, hW, hsame.mono hC hN⟩
theorem own_retN (X : Stand p l e R s m args below meth c T locs cells slots) (hx : p.tables.exec = Jvm.exec) (hlk : meth.locks = false) (eT : T.heap = h) {z z' : Int32} {t : FieldType} (hret : meth.sig.returnType = some t) (ht : t = .boolean ∨ t = .byte ∨ t = .char ∨ t = .short) (hd : decode c.code pc = .ok (.ireturn, 1)) (hC : cells ≤ C) (hN : slots ≤ N) (hz : nar t z = z') (hQ : Q (some (.int z')) h locs) :
    own_Fin p e below s C N Q (T.setTop (mkF m pc Ls (.int z :: rest))) := by
  subst hz
  obtain ⟨fs, hr, hrun, hended, hW, hsame⟩ := X.leave (v := some (.int (nar t z))) (fun h => by rw [hret] at h; cases h) hlk
  exact ⟨_, _, retN X hx hret ht hd hr, hrun, hended, _, _, rfl, (by show Q _ T.heap _; rw [eT]; exact hQ), ⟨_, rfl⟩, hW, hsame.mono hC hN⟩
theorem own_retJ (X : Stand p l e R s m args below meth c T locs cells slots) (hx : p.tables.exec = Jvm.exec) (hlk : meth.locks = false) (eT : T.heap = h) {z : Int64} (hret : meth.sig.returnType = some .long) (hd : decode c.code pc = .ok (.lreturn, 1)) (hC : cells ≤ C) (hN : slots ≤ N) (hQ : Q (some (.long z)) h locs) :
    own_Fin p e below s C N Q (T.setTop (mkF m pc Ls (.long z :: rest))) := by
  obtain ⟨fs, hr, hrun, hended, hW, hsame⟩ := X.leave (v := some (.long z)) (fun h => by rw [hret] at h; cases h) hlk
  exact ⟨_, _, retOut X hx hret rfl (Or.inr (Or.inl ⟨rfl, rfl, _, rfl⟩)) hd hr, hrun, hended, _, _, rfl, (by show Q _ T.heap _; rw [eT]; exact hQ), ⟨_, rfl⟩, hW, hsame.mono hC hN⟩
theorem own_retA (X : Stand p l e R s m args below meth c T locs cells slots) (hx : p.tables.exec = Jvm.exec) (hlk : meth.locks = false) (eT : T.heap = h) {t : FieldType} (ht : t.isReference = true) (hret : meth.sig.returnType = some t) (hn : narrow t (.ref a) = .ref a) (hd : decode c.code pc = .ok (.areturn, 1)) (hC : cells ≤ C) (hN : slots ≤ N) (hQ : Q (some (.ref a)) h locs) :
    own_Fin p e below s C N Q (T.setTop (mkF m pc Ls (.ref a :: rest))) := by
  obtain ⟨fs, hr, hrun, hended, hW, hsame⟩ := X.leave (v := some (.ref a)) (fun h => by rw [hret] at h; cases h) hlk
  exact ⟨_, _, retOut X hx hret hn (Or.inr (Or.inr (Or.inr (Or.inr ⟨rfl, ht, rfl⟩)))) hd hr, hrun, hended, _, _, rfl, (by show Q _ T.heap _; rw [eT]; exact hQ), ⟨_, rfl⟩, hW, hsame.mono hC hN⟩
theorem own_retV (X : Stand p l e R s m args below meth c T locs cells slots) (hx : p.tables.exec = Jvm.exec) (hlk : meth.locks = false) (eT : T.heap = h) (hret : meth.sig.returnType = none) (hd : decode c.code pc = .ok (.return_, 1)) (hC : cells ≤ C) (hN : slots ≤ N) (hQ : Q none h locs) :
    own_Fin p e below s C N Q (T.setTop (mkF m pc Ls [])) := by
  obtain ⟨fs, hr, hrun, hended, hW, hsame⟩ := X.leave (v := none) (fun _ => rfl) hlk
  exact ⟨_, _, X.returnOut hx hret hd hr, hrun, hended, _, _, rfl, (by show Q _ T.heap _; rw [eT]; exact hQ), ⟨_, rfl⟩, hW, hsame.mono hC hN⟩
/-! calls -/
theorem own_callS (X : Stand p l e R s m args below meth c T locs cells slots) (hx : p.tables.exec = Jvm.exec) (hZ : Z.Warmed39 s.vm) {own : String} {index : Nat} {y : MethodName} {bytes : ByteArray} {maxL : Nat} {ret : Option FieldType} {rm : Room} {W : Nat} {argsL : List Value} {Qc : Option Value → Heap → List Loc → Prop}
    (hown : s.vm.findClass own = some m.cls) (wl : (Cond.methodLink own index y).before a0 Z = true) (wst : (Cond.static y).before a0 Z = true) (wi : (Cond.initialized y.cls).before a0 Z = true) (wc : (Cond.code y bytes maxL ret).before a0 Z = true) (hy : y.cls ≠ "java/lang/invoke/MethodHandle" ∧ y.cls ≠ "java/lang/invoke/VarHandle")
    (eT : T.heap = h) (hM : own_Met l Z y bytes maxL ret rm argsL.toArray h Qc) (hfr : rm.frames + 1 ≤ R.frames) (hlo : W + (maxL + 11) + rm.locals ≤ R.locals) (hce : cells + rm.cells ≤ R.cells) (hsl : slots + rm.slots ≤ R.slots)
    (hsize : Ls.size = c.maxLocals) {ps : List FieldType} {r : Option FieldType} (hpd : parseMethodDescriptor y.desc = some ⟨ps, r⟩) (hlen : argsL.length = ps.length) {St : List Value} (hs : St = argsL.reverse ++ rest) (hW : (rest.map fun v => v.category).sum ≤ W) (hd : decode c.code pc = .ok (.invokestatic index, 3))
    (k : ∀ v T' h' L, Stand p l e R s m args below meth c T' (locs ++ L) (cells + rm.cells) (slots + rm.slots) → T'.heap = h' → Qc v h' L → own_Fin p e below s C N Q (T'.setTop (mkF m (pc + 3) Ls (v.toList ++ rest)))) :
    own_Fin p e below s C N Q (T.setTop (mkF m pc Ls St)) := by
  subst hs
  obtain ⟨v, _, ⟨T', L', k', n'⟩, -, X', ⟨Lc, hQ, l1, y1, z1⟩, st⟩ := Jvm.LawKit.callS X hx (y := y) hown (mvT hZ wl) (mvT hZ wst) (mvT hZ wi) (mvT hZ wc) hy (backOf (W := W) (hM []) hZ wc wi hfr hlo) (g := mkF m pc Ls (argsL.reverse ++ rest)) rfl hsize (argsL := argsL) (rest := rest) (lenOf hpd hlen) rfl (by show 2 * 0 + _ ≤ _; simpa using hW) hd (fun _ _ => ⟨rfl, eT, hce, hsl⟩)
  dsimp only [Pt.U, Pt.locs, Pt.cells, Pt.slots] at X' l1 y1 z1 st hQ
  subst l1 y1 z1
  exact own_of st (k _ _ _ _ X' rfl hQ)
def own_Pure (r : Value) (h : Heap) : Option Value → Heap → List Loc → Prop := fun v h' L => v = some r ∧ h' = h ∧ L = []
theorem own_callP (X : Stand p l e R s m args below meth c T locs cells slots) (hx : p.tables.exec = Jvm.exec) (hZ : Z.Warmed39 s.vm) {own : String} {index : Nat} {y : MethodName} {bytes : ByteArray} {maxL : Nat} {ret : Option FieldType} {fr lo : Nat} {W : Nat} {argsL : List Value} {rv : Value}
    (hown : s.vm.findClass own = some m.cls) (wl : (Cond.methodLink own index y).before a0 Z = true) (wst : (Cond.static y).before a0 Z = true) (wi : (Cond.initialized y.cls).before a0 Z = true) (wc : (Cond.code y bytes maxL ret).before a0 Z = true) (hy : y.cls ≠ "java/lang/invoke/MethodHandle" ∧ y.cls ≠ "java/lang/invoke/VarHandle")
    (eT : T.heap = h) (hM : own_Met l Z y bytes maxL ret { frames := fr, cells := 0, slots := 0, locals := lo } argsL.toArray h (own_Pure rv h)) (hfr : fr + 1 ≤ R.frames) (hlo : W + (maxL + 11) + lo ≤ R.locals) (hce : cells ≤ R.cells) (hsl : slots ≤ R.slots)
    (hsize : Ls.size = c.maxLocals) {ps : List FieldType} {r : Option FieldType} (hpd : parseMethodDescriptor y.desc = some ⟨ps, r⟩) (hlen : argsL.length = ps.length) {St : List Value} (hs : St = argsL.reverse ++ rest) (hW : (rest.map fun v => v.category).sum ≤ W) (hd : decode c.code pc = .ok (.invokestatic index, 3))
    (k : ∀ T', Stand p l e R s m args below meth c T' locs cells slots → T'.heap = h → own_Fin p e below s C N Q (T'.setTop (mkF m (pc + 3) Ls (rv :: rest)))) :
    own_Fin p e below s C N Q (T.setTop (mkF m pc Ls St)) := by
  refine own_callS X hx hZ hown wl wst wi wc hy eT hM hfr hlo hce hsl hsize hpd hlen hs hW hd ?_
  rintro v T' h' L X' e' ⟨rfl, rfl, rfl⟩
  rw [List.append_nil] at X'
  exact k T' X' e'
theorem own_callV (X : Stand p l e R s m args below meth c T locs cells slots) (hx : p.tables.exec = Jvm.exec) (hZ : Z.Warmed39 s.vm) {own K : String} {index : Nat} {y z : MethodName} {bytes : ByteArray} {maxL : Nat} {ret : Option FieldType} {rm : Room} {W : Nat} {argsL : List Value} {Qc : Option Value → Heap → List Loc → Prop}
    (hown : s.vm.findClass own = some m.cls) (wl : (Cond.methodLink own index y).before a0 Z = true) (wd : (Cond.declares y).before a0 Z = true) (hnf : NotFace s y) (wse : (Cond.selects K y z).before a0 Z = true) (win : (Cond.instanceMethod z).before a0 Z = true) (wi : (Cond.initialized z.cls).before a0 Z = true) (wc : (Cond.code z bytes maxL ret).before a0 Z = true) (hy : y.cls ≠ "java/lang/invoke/MethodHandle" ∧ y.cls ≠ "java/lang/invoke/VarHandle")
    (eT : T.heap = h) (E : Exa Z h b K) (hM : own_Met l Z z bytes maxL ret rm (.ref b :: argsL).toArray h Qc) (hfr : rm.frames + 1 ≤ R.frames) (hlo : W + (maxL + 11) + rm.locals ≤ R.locals) (hce : cells + rm.cells ≤ R.cells) (hsl : slots + rm.slots ≤ R.slots)
    (hsize : Ls.size = c.maxLocals) {ps : List FieldType} {r : Option FieldType} (hpd : parseMethodDescriptor y.desc = some ⟨ps, r⟩) (hlen : argsL.length = ps.length) {St : List Value} (hs : St = argsL.reverse ++ .ref b :: rest) (hW : (rest.map fun v => v.category).sum ≤ W) (hd : decode c.code pc = .ok (.invokevirtual index, 3))
    (k : ∀ v T' h' L, Stand p l e R s m args below meth c T' (locs ++ L) (cells + rm.cells) (slots + rm.slots) → T'.heap = h' → Qc v h' L → own_Fin p e below s C N Q (T'.setTop (mkF m (pc + 3) Ls (v.toList ++ rest)))) :
    own_Fin p e below s C N Q (T.setTop (mkF m pc Ls St)) := by
  subst hs
  obtain ⟨cq, kq, qa, qb, qc⟩ := isOf hZ eT E
  obtain ⟨v, _, ⟨T', L', k', n'⟩, -, X', ⟨Lc, hQ, l1, y1, z1⟩, st⟩ := X.virtualBack hx (y := y) (z := z) hown (mvT hZ wl) (mvT hZ wd) hnf (mvT hZ wse) (mvT hZ win) hy (backOf (W := W) (hM []) hZ wc wi hfr hlo) qa qc (g := mkF m pc Ls (argsL.reverse ++ .ref b :: rest)) rfl hsize (Steps.refl _) (argsL := argsL) (rest := rest) (lenOf hpd hlen) rfl (by show 2 * 0 + _ ≤ _; simpa using hW) hd (fun _ _ => ⟨rfl, eT, hce, hsl⟩)
  dsimp only [Pt.U, Pt.locs, Pt.cells, Pt.slots] at X' l1 y1 z1 st hQ
  subst l1 y1 z1
  exact own_of (fun t k => st.trans k) (k _ _ _ _ X' rfl hQ)
theorem own_callC (X : Stand p l e R s m args below meth c T locs cells slots) (hx : p.tables.exec = Jvm.exec) (hZ : Z.Warmed39 s.vm) {own : String} {index : Nat} {y : MethodName} {bytes : ByteArray} {maxL : Nat} {rm : Room} {W : Nat} {argsL : List Value} {Qc : Option Value → Heap → List Loc → Prop} (hn : y.name = "<init>")
    (hown : s.vm.findClass own = some m.cls) (wl : (Cond.methodLink own index y).before a0 Z = true) (win : (Cond.instanceMethod y).before a0 Z = true) (wi : (Cond.initialized y.cls).before a0 Z = true) (wc : (Cond.code y bytes maxL none).before a0 Z = true) (hy : y.cls ≠ "java/lang/invoke/MethodHandle" ∧ y.cls ≠ "java/lang/invoke/VarHandle")
    (eT : T.heap = h) (hM : own_Met l Z y bytes maxL none rm (.ref b :: argsL).toArray h Qc) (hfr : rm.frames + 1 ≤ R.frames) (hlo : W + (maxL + 11) + rm.locals ≤ R.locals) (hce : cells + rm.cells ≤ R.cells) (hsl : slots + rm.slots ≤ R.slots)
    (hsize : Ls.size = c.maxLocals) {ps : List FieldType} {r : Option FieldType} (hpd : parseMethodDescriptor y.desc = some ⟨ps, r⟩) (hlen : argsL.length = ps.length) {St : List Value} (hs : St = argsL.reverse ++ .ref b :: rest) (hW : (rest.map fun v => v.category).sum ≤ W) (hd : decode c.code pc = .ok (.invokespecial index, 3))
    (k : ∀ v T' h' L, Stand p l e R s m args below meth c T' (locs ++ L) (cells + rm.cells) (slots + rm.slots) → T'.heap = h' → Qc v h' L → own_Fin p e below s C N Q (T'.setTop (mkF m (pc + 3) Ls (v.toList ++ rest)))) :
    own_Fin p e below s C N Q (T.setTop (mkF m pc Ls St)) := by
  subst hs
  obtain ⟨v, _, ⟨T', L', k', n'⟩, -, X', ⟨Lc, hQ, l1, y1, z1⟩, st⟩ := X.specialBack hx (y := y) hn hown (mvT hZ wl) (mvT hZ win) (mvT hZ wc) hy (backOf (W := W) (hM []) hZ wc wi hfr hlo) (g := mkF m pc Ls (argsL.reverse ++ .ref b :: rest)) rfl hsize (Steps.refl _) (a := b) (argsL := argsL) (rest := rest) (lenOf hpd hlen) rfl (by show 2 * 0 + _ ≤ _; simpa using hW) hd (fun _ _ => ⟨rfl, eT, hce, hsl⟩)
  dsimp only [Pt.U, Pt.locs, Pt.cells, Pt.slots] at X' l1 y1 z1 st hQ
  subst l1 y1 z1
  exact own_of (fun t k => st.trans k) (k _ _ _ _ X' rfl hQ)
/-! arrays: n places, the j-th holds f j -/
def own_Arf (Z : State) (h : Heap) (a : Addr) (ty : FieldType) (n : Nat) (f : Nat → Value) : Prop := ∃ cl : Cell, Arr Z h a cl ty ∧ cl.slots.size = n ∧ ∀ j, j < n → cl.slots[j]? = some (f j)
section Ar
variable {ty : FieldType} {n : Nat} {f g : Nat → Value} {sl : Nat} {v : Value} {ws : List Addr}
theorem own_Arf.lt (F : own_Arf Z h a ty n f) : a < h.size := by obtain ⟨cl, A, -⟩ := F; exact A.lt
theorem own_Arf.ext (F : own_Arf Z h a ty n f) (E : Ext h h') : own_Arf Z h' a ty n f := by obtain ⟨cl, A, r⟩ := F; exact ⟨cl, A.ext E, r⟩
theorem own_Arf.other (F : own_Arf Z h b ty n f) (W : Wr h h' a sl v) (q : b ≠ a) : own_Arf Z h' b ty n f := by obtain ⟨cl, A, r⟩ := F; exact ⟨cl, A.other W q, r⟩
theorem own_Arf.keep (F : own_Arf Z h a ty n f) (K : Keep h h' ws) (q : a ∉ ws) : own_Arf Z h' a ty n f := by obtain ⟨cl, A, r⟩ := F; exact ⟨cl, ⟨K.2.1 a cl A.1 q, A.2⟩, r⟩
theorem own_Arf.congr (F : own_Arf Z h a ty n f) (q : ∀ j, j < n → f j = g j) : own_Arf Z h a ty n g := by obtain ⟨cl, A, r, s⟩ := F; exact ⟨cl, A, r, fun j hj => by rw [s j hj, q j hj]⟩
theorem own_Arf.set (F : own_Arf Z h a ty n f) (W : Wr h h' a sl v) : own_Arf Z h' a ty n (fun j => if j = sl then v else f j) := by
  obtain ⟨cl, A, r, q⟩ := F
  refine ⟨_, A.same W, by rw [sz_set]; exact r, fun j hj => ?_⟩
  by_cases u : j = sl
  · subst u; simp [Cell.setSlot, r, hj]
  · show (cl.slots.setIfInBounds sl v)[j]? = some (if j = sl then v else f j)
    rw [if_neg u, Array.getElem?_setIfInBounds_ne (Ne.symm u)]; exact q j hj
theorem own_Arf.new {k : ClassId} {z : Int32} (A : Arr Z h a (newA k ty z) ty) (hz : z.toInt = n) : own_Arf Z h a ty n (fun _ => defaultValue ty) := by
  have e : z.toNatClampNeg = n := by simp only [Int32.toNatClampNeg, hz]; rfl
  refine ⟨_, A, by rw [sz_new]; exact e, fun j hj => ?_⟩
  simp [newA, e, hj]
theorem own_in {j : Int32} {i k : Nat} (hj : j.toInt = i) (hi : i < k) : ¬ (j < 0 ∨ k ≤ j.toNatClampNeg) := by
  simp only [Int32.lt_iff_toInt_lt, Int32.toNatClampNeg, hj, Int32.reduceToInt]; omega
theorem own_nc {j : Int32} {i : Nat} (hj : j.toInt = i) : j.toNatClampNeg = i := by simp only [Int32.toNatClampNeg, hj]; rfl
theorem own_iaload (X : Stand p l e R s m args below meth c T locs cells slots) (hx : p.tables.exec = Jvm.exec) (hZ : Z.Warmed39 s.vm) (eT : T.heap = h) (F : own_Arf Z h a .int n f) {j : Int32} {i : Nat} (hj : j.toInt = i) (hi : i < n) (hv : f i = v) (hd : decode c.code pc = .ok (.iaload, 1))
    (k : own_Fin p e below s C N Q (T.setTop (mkF m (pc + 1) Ls (v :: rest)))) : own_Fin p e below s C N Q (T.setTop (mkF m pc Ls (.int j :: .ref a :: rest))) := by
  obtain ⟨cl, A, r, q⟩ := F
  exact own_of (fun t kk => X.iaload hx (j := j) (v := v) (by rw [eT]; exact A.1) (State.isArrayOf_alike hZ.alike A.2.1) A.2.2 (own_in hj (by rw [r]; exact hi)) (by rw [own_nc hj, q i hi, hv]) (g := mkF m pc Ls (.int j :: .ref a :: rest)) rfl rfl hd t kk) k
theorem own_laload (X : Stand p l e R s m args below meth c T locs cells slots) (hx : p.tables.exec = Jvm.exec) (hZ : Z.Warmed39 s.vm) (eT : T.heap = h) (F : own_Arf Z h a .long n f) {j : Int32} {i : Nat} (hj : j.toInt = i) (hi : i < n) (hv : f i = v) (hd : decode c.code pc = .ok (.laload, 1))
    (k : own_Fin p e below s C N Q (T.setTop (mkF m (pc + 1) Ls (v :: rest)))) : own_Fin p e below s C N Q (T.setTop (mkF m pc Ls (.int j :: .ref a :: rest))) := by
  obtain ⟨cl, A, r, q⟩ := F
  exact own_of (fun t kk => X.laload hx (j := j) (v := v) (by rw [eT]; exact A.1) (State.isArrayOf_alike hZ.alike A.2.1) A.2.2 (own_in hj (by rw [r]; exact hi)) (by rw [own_nc hj, q i hi, hv]) (g := mkF m pc Ls (.int j :: .ref a :: rest)) rfl rfl hd t kk) k
theorem own_caload (X : Stand p l e R s m args below meth c T locs cells slots) (hx : p.tables.exec = Jvm.exec) (hZ : Z.Warmed39 s.vm) (eT : T.heap = h) (F : own_Arf Z h a .char n f) {j : Int32} {i : Nat} (hj : j.toInt = i) (hi : i < n) (hv : f i = v) (hd : decode c.code pc = .ok (.caload, 1))
    (k : own_Fin p e below s C N Q (T.setTop (mkF m (pc + 1) Ls (v :: rest)))) : own_Fin p e below s C N Q (T.setTop (mkF m pc Ls (.int j :: .ref a :: rest))) := by
  obtain ⟨cl, A, r, q⟩ := F
  exact own_of (fun t kk => X.caload hx (j := j) (v := v) (by rw [eT]; exact A.1) (State.isArrayOf_alike hZ.alike A.2.1) A.2.2 (own_in hj (by rw [r]; exact hi)) (by rw [own_nc hj, q i hi, hv]) (g := mkF m pc Ls (.int j :: .ref a :: rest)) rfl rfl hd t kk) k
theorem own_baload (X : Stand p l e R s m args below meth c T locs cells slots) (hx : p.tables.exec = Jvm.exec) (hZ : Z.Warmed39 s.vm) (eT : T.heap = h) (F : own_Arf Z h a .byte n f) {j : Int32} {i : Nat} (hj : j.toInt = i) (hi : i < n) (hv : f i = v) (hd : decode c.code pc = .ok (.baload, 1))
    (k : own_Fin p e below s C N Q (T.setTop (mkF m (pc + 1) Ls (v :: rest)))) : own_Fin p e below s C N Q (T.setTop (mkF m pc Ls (.int j :: .ref a :: rest))) := by
  obtain ⟨cl, A, r, q⟩ := F
  exact own_of (fun t kk => X.baloadBytes hx (j := j) (v := v) (by rw [eT]; exact A.1) (State.isArrayOf_alike hZ.alike A.2.1) A.2.2 (own_in hj (by rw [r]; exact hi)) (by rw [own_nc hj, q i hi, hv]) (g := mkF m pc Ls (.int j :: .ref a :: rest)) rfl rfl hd t kk) k
theorem own_zaload (X : Stand p l e R s m args below meth c T locs cells slots) (hx : p.tables.exec = Jvm.exec) (hZ : Z.Warmed39 s.vm) (eT : T.heap = h) (F : own_Arf Z h a .boolean n f) {j : Int32} {i : Nat} (hj : j.toInt = i) (hi : i < n) (hv : f i = v) (hd : decode c.code pc = .ok (.baload, 1))
    (k : own_Fin p e below s C N Q (T.setTop (mkF m (pc + 1) Ls (v :: rest)))) : own_Fin p e below s C N Q (T.setTop (mkF m pc Ls (.int j :: .ref a :: rest))) := by
  obtain ⟨cl, A, r, q⟩ := F
  exact own_of (fun t kk => X.baloadBooleans hx (j := j) (v := v) (by rw [eT]; exact A.1) (State.isArrayOf_alike hZ.alike A.2.1) A.2.2 (own_in hj (by rw [r]; exact hi)) (by rw [own_nc hj, q i hi, hv]) (g := mkF m pc Ls (.int j :: .ref a :: rest)) rfl rfl hd t kk) k
theorem own_arraylength (X : Stand p l e R s m args below meth c T locs cells slots) (hx : p.tables.exec = Jvm.exec) (hZ : Z.Warmed39 s.vm) (eT : T.heap = h) (F : own_Arf Z h a ty n f) {z : Int32} (hz : z.toInt = n) (hd : decode c.code pc = .ok (.arraylength, 1))
    (k : own_Fin p e below s C N Q (T.setTop (mkF m (pc + 1) Ls (.int z :: rest)))) : own_Fin p e below s C N Q (T.setTop (mkF m pc Ls (.ref a :: rest))) := by
  obtain ⟨cl, A, r, q⟩ := F
  have e1 : cl.slots.size.toInt32 = z := by
    have hlt := Int32.toInt_lt z
    apply Int32.toInt_inj.mp
    rw [r, len_toInt (by omega), hz]
  refine own_of (fun t kk => X.arraylength hx (by rw [eT]; exact A.1) (State.isArrayOf_alike hZ.alike A.2.1) (g := mkF m pc Ls (.ref a :: rest)) rfl rfl hd t kk) ?_
  rw [e1]; exact k
variable {n0 : Nat}
theorem own_st {kd : Value} {i : Nat} {j : Int32} (hj : j.toInt = i) (F : own_Arf Z h a ty n f) (hN : Fr n0 locs) (ge : n0 ≤ a) {A : State} {fr : JFrame}
    (hst : ∃ T' h', Stand p l e R s m args below meth c T' (locs ++ [⟨a, j.toNatClampNeg⟩]) cells slots ∧ T'.heap = h' ∧ Wr h h' a j.toNatClampNeg kd ∧ ∀ target, Steps p.tables e below (T'.setTop fr) target → Steps p.tables e below A target)
    (k : ∀ T' h' locs', Stand p l e R s m args below meth c T' locs' cells slots → Fr n0 locs' → T'.heap = h' → Wr h h' a i kd → own_Arf Z h' a ty n (fun j => if j = i then kd else f j) → own_Fin p e below s C N Q (T'.setTop fr)) :
    own_Fin p e below s C N Q A := by
  obtain ⟨T', h', X', e', W, st⟩ := hst
  have hN' := Fr.snoc X' hN ge
  rw [own_nc hj] at W
  exact own_of st (k T' h' _ X' hN' e' W (F.set W))
theorem own_iastore (X : Stand p l e R s m args below meth c T locs cells slots) (hx : p.tables.exec = Jvm.exec) (hZ : Z.Warmed39 s.vm) (eT : T.heap = h) (F : own_Arf Z h a .int n f) (hN : Fr n0 locs) (ge : n0 ≤ a) {j x : Int32} {i : Nat} (hj : j.toInt = i) (hi : i < n) (hd : decode c.code pc = .ok (.iastore, 1))
    (k : ∀ T' h' locs', Stand p l e R s m args below meth c T' locs' cells slots → Fr n0 locs' → T'.heap = h' → Wr h h' a i (.int x) → own_Arf Z h' a .int n (fun j => if j = i then .int x else f j) → own_Fin p e below s C N Q (T'.setTop (mkF m (pc + 1) Ls rest))) :
    own_Fin p e below s C N Q (T.setTop (mkF m pc Ls (.int x :: .int j :: .ref a :: rest))) := by
  have F' := F
  obtain ⟨cl, A, r, q⟩ := F
  exact own_st hj F' hN ge (stI X hx hZ eT A (j := j) (own_in hj (by rw [r]; exact hi)) (g := mkF m pc Ls (.int x :: .int j :: .ref a :: rest)) rfl rfl hd) k
theorem own_lastore (X : Stand p l e R s m args below meth c T locs cells slots) (hx : p.tables.exec = Jvm.exec) (hZ : Z.Warmed39 s.vm) (eT : T.heap = h) (F : own_Arf Z h a .long n f) (hN : Fr n0 locs) (ge : n0 ≤ a) {j : Int32} {x : Int64} {i : Nat} (hj : j.toInt = i) (hi : i < n) (hd : decode c.code pc = .ok (.lastore, 1))
    (k : ∀ T' h' locs', Stand p l e R s m args below meth c T' locs' cells slots → Fr n0 locs' → T'.heap = h' → Wr h h' a i (.long x) → own_Arf Z h' a .long n (fun j => if j = i then .long x else f j) → own_Fin p e below s C N Q (T'.setTop (mkF m (pc + 1) Ls rest))) :
    own_Fin p e below s C N Q (T.setTop (mkF m pc Ls (.long x :: .int j :: .ref a :: rest))) := by
  have F' := F
  obtain ⟨cl, A, r, q⟩ := F
  exact own_st hj F' hN ge (stJ X hx hZ eT A (j := j) (own_in hj (by rw [r]; exact hi)) (g := mkF m pc Ls (.long x :: .int j :: .ref a :: rest)) rfl rfl hd) k
theorem own_bastore (X : Stand p l e R s m args below meth c T locs cells slots) (hx : p.tables.exec = Jvm.exec) (hZ : Z.Warmed39 s.vm) (eT : T.heap = h) (F : own_Arf Z h a .byte n f) (hN : Fr n0 locs) (ge : n0 ≤ a) {j x : Int32} {i : Nat} (hj : j.toInt = i) (hi : i < n) (hd : decode c.code pc = .ok (.bastore, 1))
    (k : ∀ T' h' locs', Stand p l e R s m args below meth c T' locs' cells slots → Fr n0 locs' → T'.heap = h' → Wr h h' a i (.int x.toInt8.toInt32) → own_Arf Z h' a .byte n (fun j => if j = i then .int x.toInt8.toInt32 else f j) → own_Fin p e below s C N Q (T'.setTop (mkF m (pc + 1) Ls rest))) :
    own_Fin p e below s C N Q (T.setTop (mkF m pc Ls (.int x :: .int j :: .ref a :: rest))) := by
  have F' := F
  obtain ⟨cl, A, r, q⟩ := F
  exact own_st hj F' hN ge (stB X hx hZ eT A (j := j) (own_in hj (by rw [r]; exact hi)) (g := mkF m pc Ls (.int x :: .int j :: .ref a :: rest)) rfl rfl hd) k
theorem own_castore (X : Stand p l e R s m args below meth c T locs cells slots) (hx : p.tables.exec = Jvm.exec) (hZ : Z.Warmed39 s.vm) (eT : T.heap = h) (F : own_Arf Z h a .char n f) (hN : Fr n0 locs) (ge : n0 ≤ a) {j x : Int32} {i : Nat} (hj : j.toInt = i) (hi : i < n) (hd : decode c.code pc = .ok (.castore, 1))
    (k : ∀ T' h' locs', Stand p l e R s m args below meth c T' locs' cells slots → Fr n0 locs' → T'.heap = h' → Wr h h' a i (.int x.toUInt32.toUInt16.toUInt32.toInt32) → own_Arf Z h' a .char n (fun j => if j = i then .int x.toUInt32.toUInt16.toUInt32.toInt32 else f j) → own_Fin p e below s C N Q (T'.setTop (mkF m (pc + 1) Ls rest))) :
    own_Fin p e below s C N Q (T.setTop (mkF m pc Ls (.int x :: .int j :: .ref a :: rest))) := by
  have F' := F
  obtain ⟨cl, A, r, q⟩ := F
  exact own_st hj F' hN ge (stC X hx hZ eT A (j := j) (own_in hj (by rw [r]; exact hi)) (g := mkF m pc Ls (.int x :: .int j :: .ref a :: rest)) rfl rfl hd) k
theorem own_zastore (X : Stand p l e R s m args below meth c T locs cells slots) (hx : p.tables.exec = Jvm.exec) (hZ : Z.Warmed39 s.vm) (eT : T.heap = h) (F : own_Arf Z h a .boolean n f) (hN : Fr n0 locs) (ge : n0 ≤ a) {j x : Int32} {i : Nat} (hj : j.toInt = i) (hi : i < n) (hd : decode c.code pc = .ok (.bastore, 1))
    (k : ∀ T' h' locs', Stand p l e R s m args below meth c T' locs' cells slots → Fr n0 locs' → T'.heap = h' → Wr h h' a i (.int (x &&& 1)) → own_Arf Z h' a .boolean n (fun j => if j = i then .int (x &&& 1) else f j) → own_Fin p e below s C N Q (T'.setTop (mkF m (pc + 1) Ls rest))) :
    own_Fin p e below s C N Q (T.setTop (mkF m pc Ls (.int x :: .int j :: .ref a :: rest))) := by
  have F' := F
  obtain ⟨cl, A, r, q⟩ := F
  exact own_st hj F' hN ge (stZ X hx hZ eT A (j := j) (own_in hj (by rw [r]; exact hi)) (g := mkF m pc Ls (.int x :: .int j :: .ref a :: rest)) rfl rfl hd) k
theorem own_newP (X : Stand p l e R s m args below meth c T locs cells slots) (hx : p.tables.exec = Jvm.exec) (hZ : Z.Warmed39 s.vm) {aty : ArrayType} (w : (Cond.arrayClass (newarray.typeOf aty)).before a0 Z = true) (eT : T.heap = h) (hd : decode c.code pc = .ok (.newarray aty, 2)) {z : Int32} (hz : z.toInt = n) {cap : Nat} (hcap : n ≤ cap) (hb : cap * 8 ≤ 536870912) (hc : cells + 1 ≤ R.cells) (hl : slots + cap ≤ R.slots)
    (k : ∀ T' h' b, Stand p l e R s m args below meth c T' locs (cells + 1) (slots + cap) → T'.heap = h' → Ext h h' → b = h.size → own_Arf Z h' b (newarray.typeOf aty) n (fun _ => defaultValue (newarray.typeOf aty)) → own_Fin p e below s C N Q (T'.setTop (mkF m (pc + 2) Ls (.ref b :: rest)))) :
    own_Fin p e below s C N Q (T.setTop (mkF m pc Ls (.int z :: rest))) := by
  obtain ⟨T', h', cA, X', e', E, A, st⟩ := newP X hx hZ w eT (g := mkF m pc Ls (.int z :: rest)) rfl hd rfl (by rw [Int32.lt_iff_toInt_lt, hz]; show ¬ (n : Int) < 0; omega) (cap := cap) (by rw [own_nc hz]; exact hcap) hb hc hl
  exact own_of st (k T' h' _ X' e' E rfl (own_Arf.new A hz))
end Ar
/-! objects -/
section Ob
variable {n0 : Nat} {v : Value}
theorem own_getF (X : Stand p l e R s m args below meth c T locs cells slots) (hx : p.tables.exec = Jvm.exec) (hZ : Z.Warmed39 s.vm) {own O n d : String} {index : Nat} (hown : s.vm.findClass own = some m.cls) (w : (Cond.fieldLink own index O n d).before a0 Z = true) (eT : T.heap = h) (F : Fld Z h a O n d v) (hd : decode c.code pc = .ok (.getfield index, 3))
    (k : ∀ T', Stand p l e R s m args below meth c T' locs cells slots → T'.heap = h → own_Fin p e below s C N Q (T'.setTop (mkF m (pc + 3) Ls (v :: rest)))) :
    own_Fin p e below s C N Q (T.setTop (mkF m pc Ls (.ref a :: rest))) := by
  obtain ⟨T', X', e', st⟩ := getF X hx hZ hown (host := "") (Or.inl w) Via.refl eT F (g := mkF m pc Ls (.ref a :: rest)) rfl rfl hd
  exact own_of st (k T' X' e')
theorem own_putF (X : Stand p l e R s m args below meth c T locs cells slots) (hx : p.tables.exec = Jvm.exec) (hZ : Z.Warmed39 s.vm) {own O n d K : String} {index kk : Nat} {ty : FieldType} {old : Value} (hown : s.vm.findClass own = some m.cls) (w : (Cond.fieldLink own index O n d).before a0 Z = true) (eT : T.heap = h) (F : Fld Z h a O n d old) (E : Exa Z h a K)
    (L : (Cond.lays K O n d).before a0 Z = true ∨ ((Cond.laysFinal K O n d).before a0 Z = true ∧ own = O ∧ meth.name = "<init>")) (wi : (Cond.instantiable K kk).before a0 Z = true) (hty : parseFieldDescriptor d = some ty) (hn : narrow ty v = v) (hf : fits ty v = true) (hN : Fr n0 locs) (ge : n0 ≤ a) (hd : decode c.code pc = .ok (.putfield index, 3))
    (k : ∀ T' h' locs', Stand p l e R s m args below meth c T' locs' cells slots → Fr n0 locs' → T'.heap = h' → Wr h h' a (slotOf Z O n d) v → own_Fin p e below s C N Q (T'.setTop (mkF m (pc + 3) Ls rest))) :
    own_Fin p e below s C N Q (T.setTop (mkF m pc Ls (v :: .ref a :: rest))) := by
  obtain ⟨T', h', X', e', W, st⟩ := putF X hx hZ hown (host := "") (Or.inl w) Via.refl eT F E L wi hty hn hf (g := mkF m pc Ls (v :: .ref a :: rest)) rfl rfl hd
  exact own_of st (k T' h' _ X' (Fr.snoc X' hN ge) e' W)
theorem own_newO (X : Stand p l e R s m args below meth c T locs cells slots) (hx : p.tables.exec = Jvm.exec) (hZ : Z.Warmed39 s.vm) {own K : String} {index n : Nat} (hown : s.vm.findClass own = some m.cls) (w : (Cond.classLink own index K).before a0 Z = true) (wi : (Cond.instantiable K n).before a0 Z = true) (wz : (Cond.initialized K).before a0 Z = true) (eT : T.heap = h) (hd : decode c.code pc = .ok (.new index, 3)) (hc : cells + 1 ≤ R.cells) (hl : slots + n ≤ R.slots)
    (k : ∀ T' h' b, Stand p l e R s m args below meth c T' locs (cells + 1) (slots + n) → T'.heap = h' → Ext h h' → b = h.size → Exa Z h' b K → (∀ {O nm d : String} {ty : FieldType}, Laid Z a0 K O nm d → parseFieldDescriptor d = some ty → Fld Z h' b O nm d (defaultValue ty)) → own_Fin p e below s C N Q (T'.setTop (mkF m (pc + 3) Ls (.ref b :: rest)))) :
    own_Fin p e below s C N Q (T.setTop (mkF m pc Ls rest)) := by
  obtain ⟨T', h', X', e', E, A, D, -, st⟩ := newO X hx hZ hown w wi wz eT (g := mkF m pc Ls rest) rfl hd hc hl
  exact own_of st (k T' h' _ X' e' E rfl A D)
theorem own_initO (X : Stand p l e R s m args below meth c T locs cells slots) (hx : p.tables.exec = Jvm.exec) (hZ : Z.Warmed39 s.vm) {own : String} {idx : Nat} (hown : s.vm.findClass own = some m.cls) (w1 : (Cond.methodLink own idx Lib.objectInit).before a0 Z = true) (w2 : (Cond.instanceMethod Lib.objectInit).before a0 Z = true) (w3 : (Cond.code Lib.objectInit ⟨#[0xb1]⟩ 1 none).before a0 Z = true) (eT : T.heap = h) (hsize : Ls.size = c.maxLocals) (hd : decode c.code pc = .ok (.invokespecial idx, 3)) (hf : 1 ≤ R.frames) {W : Nat} (hW : (rest.map fun v => v.category).sum ≤ W) (hl : W + 12 ≤ R.locals)
    (k : ∀ T', Stand p l e R s m args below meth c T' locs cells slots → T'.heap = h → own_Fin p e below s C N Q (T'.setTop (mkF m (pc + 3) Ls rest))) :
    own_Fin p e below s C N Q (T.setTop (mkF m pc Ls (.ref a :: rest))) := by
  obtain ⟨T', X', e', st⟩ := initO X hx hZ hown w1 w2 w3 eT (g := mkF m pc Ls (.ref a :: rest)) rfl hsize rfl hd hf (W := W) (by show 2 * 0 + _ ≤ _; simpa using hW) hl
  exact own_of st (k T' X' e')
theorem own_wide (X : Stand p l e R s m args below meth c T locs cells slots) {cells' slots' : Nat} (h1 : cells ≤ cells') (h2 : slots ≤ slots') : Stand p l e R s m args below meth c T locs cells' slots' := { X with same := X.same.mono h1 h2 }
end Ob
theorem own_lremM {g : JFrame} {target : State} (X : Stand p l e R s m args below meth c T locs cells slots) (hx : p.tables.exec = Jvm.exec) (hg : g.method = m) {x y : Int64} (hd : decode c.code g.pc = .ok (.lrem, 1)) (hs : g.stack = .long y :: .long x :: rest) (hy : y ≠ 0)
    (hr : Steps p.tables e below (T.setTop { g with pc := g.pc + 1, stack := .long (x % y) :: rest }) target) : Steps p.tables e below (T.setTop g) target := by
  refine XS.lrem X.here hx hg hd hs hy ?_
  rw [lrem_mod]; exact hr
end OwnKit
def own_iushr (x y : Int32) : Int32 := (x.toUInt32 >>> (y &&& 31).toUInt32).toInt32
def own_ishl (x y : Int32) : Int32 := x <<< (y &&& 31)
def own_ishr (x y : Int32) : Int32 := x >>> (y &&& 31)
def own_lushr (x : Int64) (y : Int32) : Int64 := (x.toUInt64 >>> (y &&& 0x3f).toInt64.toUInt64).toInt64
def own_lshl (x : Int64) (y : Int32) : Int64 := x <<< (y &&& 0x3f).toInt64
def own_lshr (x : Int64) (y : Int32) : Int64 := x >>> (y &&& 0x3f).toInt64
def own_i2b (x : Int32) : Int32 := x.toInt8.toInt32
def own_i2c (x : Int32) : Int32 := x.toUInt32.toUInt16.toUInt32.toInt32
def own_i2s (x : Int32) : Int32 := x.toInt16.toInt32
end Jvm.RoadKit
namespace Jvm.Pilot.@@N@@
open Jvm Jvm.ClassFile Sem Op Lib Jvm.Free Jvm.Stand Jvm.LawKit Jvm.RoadKit Bundle Jvm.Pilot.@@N@@.Jvm.D
theorem d1_0 : decode prog_18_method_16_code 0 = .ok (.lload_n 2, 1) := by decide +kernel
theorem d1_1 : decode prog_18_method_16_code 1 = .ok (.ldc2_w 260, 3) := by decide +kernel
theorem d1_4 : decode prog_18_method_16_code 4 = .ok (.lcmp, 1) := by decide +kernel
theorem d1_5 : decode prog_18_method_16_code 5 = .ok (.ifCond .lt 24, 3) := by decide +kernel
theorem d1_8 : decode prog_18_method_16_code 8 = .ok (.aload_n 0, 1) := by decide +kernel
theorem d1_9 : decode prog_18_method_16_code 9 = .ok (.iload_n 1, 1) := by decide +kernel
theorem d1_10 : decode prog_18_method_16_code 10 = .ok (.iinc 1 1, 3) := by decide +kernel
theorem d1_13 : decode prog_18_method_16_code 13 = .ok (.lload_n 2, 1) := by decide +kernel
theorem d1_14 : decode prog_18_method_16_code 14 = .ok (.ldc2_w 260, 3) := by decide +kernel
theorem d1_17 : decode prog_18_method_16_code 17 = .ok (.lor, 1) := by decide +kernel
theorem d1_18 : decode prog_18_method_16_code 18 = .ok (.l2i, 1) := by decide +kernel
theorem d1_19 : decode prog_18_method_16_code 19 = .ok (.i2b, 1) := by decide +kernel
theorem d1_20 : decode prog_18_method_16_code 20 = .ok (.bastore, 1) := by decide +kernel
theorem d1_21 : decode prog_18_method_16_code 21 = .ok (.lload_n 2, 1) := by decide +kernel
theorem d1_22 : decode prog_18_method_16_code 22 = .ok (.bipush 7, 2) := by decide +kernel
theorem d1_24 : decode prog_18_method_16_code 24 = .ok (.lushr, 1) := by decide +kernel
theorem d1_25 : decode prog_18_method_16_code 25 = .ok (.lstore_n 2, 1) := by decide +kernel
theorem d1_26 : decode prog_18_method_16_code 26 = .ok (.goto (-26), 3) := by decide +kernel
theorem d1_29 : decode prog_18_method_16_code 29 = .ok (.aload_n 0, 1) := by decide +kernel
theorem d1_30 : decode prog_18_method_16_code 30 = .ok (.iload_n 1, 1) := by decide +kernel
theorem d1_31 : decode prog_18_method_16_code 31 = .ok (.iinc 1 1, 3) := by decide +kernel
theorem d1_34 : decode prog_18_method_16_code 34 = .ok (.lload_n 2, 1) := by decide +kernel
theorem d1_35 : decode prog_18_method_16_code 35 = .ok (.l2i, 1) := by decide +kernel
theorem d1_36 : decode prog_18_method_16_code 36 = .ok (.i2b, 1) := by decide +kernel
theorem d1_37 : decode prog_18_method_16_code 37 = .ok (.bastore, 1) := by decide +kernel
theorem d1_38 : decode prog_18_method_16_code 38 = .ok (.iload_n 1, 1) := by decide +kernel
theorem d1_39 : decode prog_18_method_16_code 39 = .ok (.ireturn, 1) := by decide +kernel
theorem d2_0 : decode method_3_code 0 = .ok (.iload_n 1, 1) := by decide +kernel
theorem d2_1 : decode method_3_code 1 = .ok (.iload_n 2, 1) := by decide +kernel
theorem d2_2 : decode method_3_code 2 = .ok (.isub, 1) := by decide +kernel
theorem d2_3 : decode method_3_code 3 = .ok (.istore 7, 2) := by decide +kernel
theorem d2_5 : decode method_3_code 5 = .ok (.iload 7, 2) := by decide +kernel
theorem d2_7 : decode method_3_code 7 = .ok (.ifCond .lt 10, 3) := by decide +kernel
theorem d2_10 : decode method_3_code 10 = .ok (.iload 7, 2) := by decide +kernel
theorem d2_12 : decode method_3_code 12 = .ok (.iload 5, 2) := by decide +kernel
theorem d2_14 : decode method_3_code 14 = .ok (.if_icmp .lt 10, 3) := by decide +kernel
theorem d2_17 : decode method_3_code 17 = .ok (.iload 6, 2) := by decide +kernel
theorem d2_19 : decode method_3_code 19 = .ok (.istore 8, 2) := by decide +kernel
theorem d2_21 : decode method_3_code 21 = .ok (.goto 41, 3) := by decide +kernel
theorem d2_24 : decode method_3_code 24 = .ok (.lload_n 3, 1) := by decide +kernel
theorem d2_25 : decode method_3_code 25 = .ok (.bipush 7, 2) := by decide +kernel
theorem d2_27 : decode method_3_code 27 = .ok (.iload 7, 2) := by decide +kernel
theorem d2_29 : decode method_3_code 29 = .ok (.imul, 1) := by decide +kernel
theorem d2_30 : decode method_3_code 30 = .ok (.lushr, 1) := by decide +kernel
theorem d2_31 : decode method_3_code 31 = .ok (.ldc2_w 24, 3) := by decide +kernel
theorem d2_34 : decode method_3_code 34 = .ok (.land, 1) := by decide +kernel
theorem d2_35 : decode method_3_code 35 = .ok (.l2i, 1) := by decide +kernel
theorem d2_36 : decode method_3_code 36 = .ok (.istore 9, 2) := by decide +kernel
theorem d2_38 : decode method_3_code 38 = .ok (.iload 7, 2) := by decide +kernel
theorem d2_40 : decode method_3_code 40 = .ok (.iload 5, 2) := by decide +kernel
theorem d2_42 : decode method_3_code 42 = .ok (.iconst 1, 1) := by decide +kernel
theorem d2_43 : decode method_3_code 43 = .ok (.isub, 1) := by decide +kernel
theorem d2_44 : decode method_3_code 44 = .ok (.if_icmp .ge 14, 3) := by decide +kernel
theorem d2_47 : decode method_3_code 47 = .ok (.iload 9, 2) := by decide +kernel
theorem d2_49 : decode method_3_code 49 = .ok (.sipush 128, 3) := by decide +kernel
theorem d2_52 : decode method_3_code 52 = .ok (.ior, 1) := by decide +kernel
theorem d2_53 : decode method_3_code 53 = .ok (.istore 8, 2) := by decide +kernel
theorem d2_55 : decode method_3_code 55 = .ok (.goto 7, 3) := by decide +kernel
theorem d2_58 : decode method_3_code 58 = .ok (.iload 9, 2) := by decide +kernel
theorem d2_60 : decode method_3_code 60 = .ok (.istore 8, 2) := by decide +kernel
theorem d2_62 : decode method_3_code 62 = .ok (.aload_n 0, 1) := by decide +kernel
theorem d2_63 : decode method_3_code 63 = .ok (.iload_n 1, 1) := by decide +kernel
theorem d2_64 : decode method_3_code 64 = .ok (.baload, 1) := by decide +kernel
theorem d2_65 : decode method_3_code 65 = .ok (.iload 8, 2) := by decide +kernel
theorem d2_67 : decode method_3_code 67 = .ok (.i2b, 1) := by decide +kernel
theorem d2_68 : decode method_3_code 68 = .ok (.if_icmp .ne 7, 3) := by decide +kernel
theorem d2_71 : decode method_3_code 71 = .ok (.iconst 1, 1) := by decide +kernel
theorem d2_72 : decode method_3_code 72 = .ok (.goto 4, 3) := by decide +kernel
theorem d2_75 : decode method_3_code 75 = .ok (.iconst 0, 1) := by decide +kernel
theorem d2_76 : decode method_3_code 76 = .ok (.ireturn, 1) := by decide +kernel
theorem pd_0 : parseMethodDescriptor "(JIII)Z" = some ⟨[.long, .int, .int, .int], some .boolean⟩ := by decide +kernel
theorem pd_1 : parseMethodDescriptor "([BIIJIB)Z" = some ⟨[(.array .byte), .int, .int, .long, .int, .byte], some .boolean⟩ := by decide +kernel
theorem pd_2 : parseMethodDescriptor "([BIJ)I" = some ⟨[(.array .byte), .int, .long], some .int⟩ := by decide +kernel
theorem pn_0 : plainFor x = true := plainFor_of_name (by first | (simp [plainName, overriddenIn]; done) | decide +kernel)
theorem ef_0 (m : MethodId) (x0 : Int64) (x1 : Int32) (x2 : Int32) (x3 : Int32) : entryFrame m #[(.long x0), (.int x1), (.int x2), (.int x3)] maxLocals = mkF m 0 #[.val (.long x0), .second, .val (.int x1), .val (.int x2), .val (.int x3), .unset, .unset, .unset, .unset, .unset, .unset, .unset] [] := by first | (simp [entryFrame, mkF, argsToLocals, Value.category, maxLocals]; done) | rfl
theorem pn_1 : plainFor (⟨"com/example/vestwright/vestwright/csv/ExternalSort", "putVarLong", "([BIJ)I"⟩ : MethodName) = true := plainFor_of_name (by first | (simp [plainName, overriddenIn]; done) | decide +kernel)
theorem ef_1 (m : MethodId) (x0 : Addr) (x1 : Int32) (x2 : Int64) : entryFrame m #[(.ref x0), (.int x1), (.long x2)] 4 = mkF m 0 #[.val (.ref x0), .val (.int x1), .val (.long x2), .second] [] := by first | (simp [entryFrame, mkF, argsToLocals, Value.category]; done) | rfl
theorem pn_2 : plainFor (⟨"com/example/vestwright/vestwright/csv/ExternalSortPutVarLongPinLaw", "ok", "([BIIJIB)Z"⟩ : MethodName) = true := plainFor_of_name (by first | (simp [plainName, overriddenIn]; done) | decide +kernel)
theorem ef_2 (m : MethodId) (x0 : Addr) (x1 : Int32) (x2 : Int32) (x3 : Int64) (x4 : Int32) (x5 : Int32) : entryFrame m #[(.ref x0), (.int x1), (.int x2), (.long x3), (.int x4), (.int x5)] 10 = mkF m 0 #[.val (.ref x0), .val (.int x1), .val (.int x2), .val (.long x3), .second, .val (.int x4), .val (.int x5), .unset, .unset, .unset] [] := by first | (simp [entryFrame, mkF, argsToLocals, Value.category]; done) | rfl
theorem own_all8 {P : Int8 → Prop} (h : ∀ n : Fin 256, P (.ofBitVec (.ofFin n))) (b : Int8) : P b := by
  have := h b.toBitVec.toFin
  simpa using this
theorem own_fin (x : Int32) (K : Nat) (h0 : 0 ≤ x.toInt) (h1 : x.toInt < K) : ∃ n : Nat, n < K ∧ x = Int32.ofInt (n : Int) :=
  ⟨x.toInt.toNat, by omega, by rw [Int.toNat_of_nonneg h0, Int32.ofInt_toInt]⟩
theorem own_lushr_nat (x : Int64) (q : Int32) (k : Nat) (hk : q.toBitVec.toNat % 64 = k) : (own_lushr x q).toBitVec.toNat = x.toBitVec.toNat / 2 ^ k := by
  show (x.toBitVec >>> ((q &&& 0x3f).toInt64.toBitVec % 64)).toNat = _
  rw [BitVec.ushiftRight_eq', BitVec.toNat_ushiftRight, Nat.shiftRight_eq_div_pow, BitVec.toNat_umod, (sm64 q k hk).1, BitVec.toNat_ofNat]
  congr 2
  have := (sm64 q k hk).2
  show k % 2 ^ 64 % 64 = k
  omega
theorem own_l0 (x : Int64) : x = 0 ↔ x.toBitVec.toNat = 0 := ⟨fun h => by subst h; rfl, fun h => Int64.toBitVec_inj.mp (BitVec.eq_of_toNat_eq h)⟩
theorem own_shsh (x : Int64) (a b c : Int32) (i j : Nat) (ha : a.toBitVec.toNat % 64 = i) (hb : b.toBitVec.toNat % 64 = j) (hc : c.toBitVec.toNat % 64 = i + j) : own_lushr (own_lushr x a) b = own_lushr x c := by
  apply Int64.toBitVec_inj.mp
  apply BitVec.eq_of_toNat_eq
  rw [own_lushr_nat _ b j hb, own_lushr_nat x a i ha, own_lushr_nat x c _ hc, Nat.div_div_eq_div_mul, Nat.pow_add]
theorem own_shz (x : Int64) (a b : Int32) (i j : Nat) (ha : a.toBitVec.toNat % 64 = i) (hb : b.toBitVec.toNat % 64 = j) (h : 64 ≤ i + j) : own_lushr (own_lushr x a) b = 0 := by
  rw [own_l0, own_lushr_nat _ b j hb, own_lushr_nat x a i ha, Nat.div_div_eq_div_mul, ← Nat.pow_add]
  exact Nat.div_eq_of_lt (Nat.lt_of_lt_of_le x.toBitVec.isLt (Nat.pow_le_pow_right (by decide) h))
theorem own_true {P : Prop} [Decidable P] (h : P) : ((if P then (1 : Int32) else (0 : Int32)) &&& 1) = 1 := by rw [if_pos h]; rfl
/-! Java's >>> on longs by a natural number -/
def own_sr (v : Int64) (k : Nat) : Int64 := .ofBitVec (v.toBitVec >>> k)
theorem own_sr_nat (v : Int64) (k : Nat) : (own_sr v k).toBitVec.toNat = v.toBitVec.toNat / 2 ^ k := by
  show (v.toBitVec >>> k).toNat = _
  rw [BitVec.toNat_ushiftRight, Nat.shiftRight_eq_div_pow]
theorem own_inj {a b : Int64} (h : a.toBitVec.toNat = b.toBitVec.toNat) : a = b := Int64.toBitVec_inj.mp (BitVec.eq_of_toNat_eq h)
theorem own_lushr_sr (v : Int64) (q : Int32) (k : Nat) (hk : q.toBitVec.toNat % 64 = k) : own_lushr v q = own_sr v k := own_inj (by rw [own_lushr_nat v q k hk, own_sr_nat])
theorem own_sr_sr (v : Int64) (a b : Nat) : own_sr (own_sr v a) b = own_sr v (a + b) := own_inj (by rw [own_sr_nat, own_sr_nat, own_sr_nat, Nat.div_div_eq_div_mul, Nat.pow_add])
theorem own_turn (v : Int64) (i : Nat) : own_lushr (own_sr v (7 * i)) (7 : Int32) = own_sr v (7 * (i + 1)) := by
  rw [own_lushr_sr _ 7 7 (by decide), own_sr_sr]; congr 1
theorem own_i2b_i2b (x : Int32) : own_i2b (own_i2b x) = own_i2b x := by
  have h1 := (c_i2b (own_i2b x))
  have h2 := (c_i2b x)
  change ((own_i2b (own_i2b x)).toInt - (own_i2b x).toInt) % 256 = 0 ∧ -128 ≤ (own_i2b (own_i2b x)).toInt ∧ (own_i2b (own_i2b x)).toInt < 128 at h1
  change ((own_i2b x).toInt - x.toInt) % 256 = 0 ∧ -128 ≤ (own_i2b x).toInt ∧ (own_i2b x).toInt < 128 at h2
  exact Int32.toInt_inj.mp (by omega)
def own_cont (v : Int64) (t : Nat) : Prop := ¬ own_sr v (7 * t) < (128 : Int64)
def own_cb (v : Int64) (t : Nat) : Int32 := own_i2b (own_i2b (own_sr v (7 * t) ||| (128 : Int64)).toInt32)
def own_lb (v : Int64) (t : Nat) : Int32 := own_i2b (own_i2b (own_sr v (7 * t)).toInt32)
def own_w (a : Nat) (v : Int64) (f : Nat → Int32) (i j : Nat) : Int32 := if a ≤ j ∧ j < a + i then own_cb v (j - a) else f j
def own_w2 (a : Nat) (v : Int64) (f : Nat → Int32) (k j : Nat) : Int32 := if j = a + k then own_lb v k else own_w a v f k j
theorem own_w0 (a : Nat) (v : Int64) (f : Nat → Int32) (j : Nat) : f j = own_w a v f 0 j := by unfold own_w; rw [if_neg (by omega)]
theorem own_wstep (a : Nat) (v : Int64) (f : Nat → Int32) (i j : Nat) : (if j = (a + i) then (Value.int (own_cb v i)) else (fun j => Value.int (own_w a v f i j)) j) = .int (own_w a v f (i + 1) j) := by
  dsimp only
  unfold own_w
  by_cases h : j = a + i
  · subst h
    rw [if_pos rfl, if_pos (by omega), show a + i - a = i by omega]
  · rw [if_neg h]
    by_cases h2 : a ≤ j ∧ j < a + i
    · rw [if_pos h2, if_pos (by omega)]
    · rw [if_neg h2, if_neg (by omega)]
theorem own_wlast (a : Nat) (v : Int64) (f : Nat → Int32) (i j : Nat) : (if j = (a + i) then (Value.int (own_lb v i)) else (fun j => Value.int (own_w a v f i j)) j) = .int (own_w2 a v f i j) := by
  dsimp only
  unfold own_w2
  split <;> rfl
theorem own_toI (v : Int64) (h : v.toBitVec.toNat < 2 ^ 63) : v.toInt = (v.toBitVec.toNat : Int) := by
  show v.toBitVec.toInt = _
  rw [BitVec.toInt_eq_toNat_cond, if_pos (by omega)]
theorem own_ltN (v : Int64) (t : Nat) (hv : v.toBitVec.toNat < 2 ^ 63) : own_sr v (7 * t) < (128 : Int64) ↔ v.toBitVec.toNat / 2 ^ (7 * t) < 128 := by
  have h1 := own_sr_nat v (7 * t)
  have h2 : v.toBitVec.toNat / 2 ^ (7 * t) ≤ v.toBitVec.toNat := Nat.div_le_self _ _
  rw [Int64.lt_iff_toInt_lt, own_toI _ (by omega), h1, show (128 : Int64).toInt = 128 by decide]
  omega
theorem own_contN (v : Int64) (t : Nat) (hv : v.toBitVec.toNat < 2 ^ 63) : own_cont v t ↔ 128 ≤ v.toBitVec.toNat / 2 ^ (7 * t) := by
  unfold own_cont; rw [own_ltN v t hv]; omega
theorem own_end (v : Int64) (hv : v.toBitVec.toNat < 2 ^ 63) : own_sr v (7 * 8) < (128 : Int64) := by
  rw [own_ltN v 8 hv]; omega
theorem own_p1 {p : Int32} {a i : Nat} (hp : p.toInt = ((a + i : Nat) : Int)) (h : a + i < 100) : (p + 1).toInt = ((a + (i + 1) : Nat) : Int) := by
  have h1 := c_iadd p 1
  have h2 := rng32 (p + 1)
  have k : (1 : Int32).toInt = 1 := by decide
  omega
set_option maxRecDepth 65536 in
set_option maxHeartbeats 40000000 in
theorem own_loop1 (l : Launch) (Z : State) (a0 : Array Value) (hw : ∀ d ∈ tables_1, d.before a0 Z = true) (x0 : Addr) (x1 : Int32) (x2 : Int64) (q2 : Int64) (a : Nat) (n : Nat) (f : Nat → Int32) (n0 : Nat) {p : Program} {e : Env} {R : Room} {s : State} {m : MethodId} {args : Array Value} {below : List Frame} {meth : Method} {c : Code} (hx : p.tables.exec = Jvm.exec) (hby : c.code = prog_18_method_16_code) (hml : c.maxLocals = 4) (hown : s.vm.findClass "com/example/vestwright/vestwright/csv/ExternalSort" = some m.cls) (hZ : Z.Warmed39 s.vm) (hret : meth.sig.returnType = some .int) (hlk : meth.locks = false) (hv : q2.toBitVec.toNat < 2 ^ 63) (ge : n0 ≤ x0) (han : a + 9 ≤ n) (hn : n ≤ 16) :
    ∀ (d : Nat) (i : Nat) (p4 : Int32) (T0 : State) (locs : List Loc) (h0 : Heap), Stand p l e R s m args below meth c T0 locs 0 0 → Fr n0 locs → n0 ≤ h0.size → T0.heap = h0 → (i + d = 8) → (p4.toInt = ((a + i : Nat) : Int)) → (∀ t, t < i → own_cont q2 t) → (own_Arf Z h0 x0 .byte n (fun j => .int (own_w a q2 f i j))) → own_Fin p e below s 0 0 (fun v h L => ∃ (k : Nat) (z : Int32), v = some (.int z) ∧ Fr n0 L ∧ n0 ≤ h.size ∧ k ≤ 8 ∧ z.toInt = ((a + (k + 1) : Nat) : Int) ∧ (∀ t, t < k → own_cont q2 t) ∧ ¬ own_cont q2 k ∧ own_Arf Z h x0 .byte n (fun j => .int (own_w2 a q2 f k j))) (T0.setTop (mkF m 0 #[.val (.ref x0), .val (.int p4), .val (.long (own_sr q2 (7 * i))), .second] [])) := by
  intro d
  induction d with
  | zero =>
    intro i p4 T0 locs h0 X0 N0 Z0 e0 hm hp hcs A
    have c5 : own_sr q2 (7 * i) < (128 : Int64) := by rw [show i = 8 by omega]; exact own_end q2 hv
    show own_Fin _ _ _ _ _ _ _ (T0.setTop (mkF m 0 #[.val (.ref x0), .val (.int p4), .val (.long (own_sr q2 (7 * i))), .second] []))
    refine own_of (fun _ kk => XS.lloadN X0.here hx rfl (hb hby d1_0) rfl kk) ?_
    show own_Fin _ _ _ _ _ _ _ (T0.setTop (mkF m 1 #[.val (.ref x0), .val (.int p4), .val (.long (own_sr q2 (7 * i))), .second] [(.long (own_sr q2 (7 * i)))]))
    refine own_of (fun _ kk => X0.ldc2Long hx hown (mvT hZ (hw _ (List.mem_of_getElem? (i := 7) rfl))) (g := (mkF m 1 #[.val (.ref x0), .val (.int p4), .val (.long (own_sr q2 (7 * i))), .second] [(.long (own_sr q2 (7 * i)))])) rfl (hb hby d1_1) _ kk) ?_
    show own_Fin _ _ _ _ _ _ _ (T0.setTop (mkF m 4 #[.val (.ref x0), .val (.int p4), .val (.long (own_sr q2 (7 * i))), .second] [(.long (128 : Int64)), (.long (own_sr q2 (7 * i)))]))
    refine own_of (fun _ kk => XS.lcmp X0.here hx rfl (hb hby d1_4) rfl kk) ?_
    show own_Fin _ _ _ _ _ _ _ (T0.setTop (mkF m 5 #[.val (.ref x0), .val (.int p4), .val (.long (own_sr q2 (7 * i))), .second] [(.int (lcmpW (own_sr q2 (7 * i)) (128 : Int64)))]))
    refine own_of (fun _ kk => XS.ifYes X0.here hx rfl (pc0 := 5) (pc' := 29) rfl (hb hby d1_5) rfl ((if0 _ _).trans (tlt ((lw_lt _ _).mpr c5)).1) (by decide) (by decide) kk) ?_
    show own_Fin _ _ _ _ _ _ _ (T0.setTop (mkF m 29 #[.val (.ref x0), .val (.int p4), .val (.long (own_sr q2 (7 * i))), .second] []))
    refine own_of (fun _ kk => XS.aloadN X0.here hx rfl (hb hby d1_29) rfl rfl kk) ?_
    show own_Fin _ _ _ _ _ _ _ (T0.setTop (mkF m 30 #[.val (.ref x0), .val (.int p4), .val (.long (own_sr q2 (7 * i))), .second] [(.ref x0)]))
    refine own_of (fun _ kk => XS.iloadN X0.here hx rfl (hb hby d1_30) rfl kk) ?_
    show own_Fin _ _ _ _ _ _ _ (T0.setTop (mkF m 31 #[.val (.ref x0), .val (.int p4), .val (.long (own_sr q2 (7 * i))), .second] [(.int p4), (.ref x0)]))
    refine own_of (fun _ kk => XS.iinc X0.here hx rfl (hb hby d1_31) rfl (l' := #[.val (.ref x0), .val (.int (p4 + (1 : Int32))), .val (.long (own_sr q2 (7 * i))), .second]) rfl kk) ?_
    show own_Fin _ _ _ _ _ _ _ (T0.setTop (mkF m 34 #[.val (.ref x0), .val (.int (p4 + (1 : Int32))), .val (.long (own_sr q2 (7 * i))), .second] [(.int p4), (.ref x0)]))
    refine own_of (fun _ kk => XS.lloadN X0.here hx rfl (hb hby d1_34) rfl kk) ?_
    show own_Fin _ _ _ _ _ _ _ (T0.setTop (mkF m 35 #[.val (.ref x0), .val (.int (p4 + (1 : Int32))), .val (.long (own_sr q2 (7 * i))), .second] [(.long (own_sr q2 (7 * i))), (.int p4), (.ref x0)]))
    refine own_of (fun _ kk => XS.l2i X0.here hx rfl (hb hby d1_35) rfl kk) ?_
    show own_Fin _ _ _ _ _ _ _ (T0.setTop (mkF m 36 #[.val (.ref x0), .val (.int (p4 + (1 : Int32))), .val (.long (own_sr q2 (7 * i))), .second] [(.int (own_sr q2 (7 * i)).toInt32), (.int p4), (.ref x0)]))
    refine own_of (fun _ kk => XS.i2b X0.here hx rfl (hb hby d1_36) rfl kk) ?_
    show own_Fin _ _ _ _ _ _ _ (T0.setTop (mkF m 37 #[.val (.ref x0), .val (.int (p4 + (1 : Int32))), .val (.long (own_sr q2 (7 * i))), .second] [(.int (own_i2b (own_sr q2 (7 * i)).toInt32)), (.int p4), (.ref x0)]))
    refine own_bastore X0 hx hZ e0 A N0 ge (i := (a + i)) hp (by omega) (hb hby d1_37) ?_
    intro T1 h1 l1 X1 N1 e1 W1 A1
    replace A1 : own_Arf Z h1 x0 .byte n (fun j => if j = (a + i) then (.int (own_i2b (own_i2b (own_sr q2 (7 * i)).toInt32))) else (fun j => .int (own_w a q2 f i j)) j) := A1
    have ZW1 : n0 ≤ h1.size := by rw [Wr.size W1]; exact Z0
    show own_Fin _ _ _ _ _ _ _ (T1.setTop (mkF m 38 #[.val (.ref x0), .val (.int (p4 + (1 : Int32))), .val (.long (own_sr q2 (7 * i))), .second] []))
    refine own_of (fun _ kk => XS.iloadN X1.here hx rfl (hb hby d1_38) rfl kk) ?_
    show own_Fin _ _ _ _ _ _ _ (T1.setTop (mkF m 39 #[.val (.ref x0), .val (.int (p4 + (1 : Int32))), .val (.long (own_sr q2 (7 * i))), .second] [(.int (p4 + (1 : Int32)))]))
    exact own_retI X1 hx hlk e1 hret (hb hby d1_39) (by decide) (by decide) ⟨i, _, rfl, N1, ZW1, by omega, own_p1 hp (by omega), hcs, not_not_intro c5, A1.congr fun j _ => own_wlast a q2 f i j⟩
  | succ d ih =>
    intro i p4 T0 locs h0 X0 N0 Z0 e0 hm hp hcs A
    show own_Fin _ _ _ _ _ _ _ (T0.setTop (mkF m 0 #[.val (.ref x0), .val (.int p4), .val (.long (own_sr q2 (7 * i))), .second] []))
    refine own_of (fun _ kk => XS.lloadN X0.here hx rfl (hb hby d1_0) rfl kk) ?_
    show own_Fin _ _ _ _ _ _ _ (T0.setTop (mkF m 1 #[.val (.ref x0), .val (.int p4), .val (.long (own_sr q2 (7 * i))), .second] [(.long (own_sr q2 (7 * i)))]))
    refine own_of (fun _ kk => X0.ldc2Long hx hown (mvT hZ (hw _ (List.mem_of_getElem? (i := 7) rfl))) (g := (mkF m 1 #[.val (.ref x0), .val (.int p4), .val (.long (own_sr q2 (7 * i))), .second] [(.long (own_sr q2 (7 * i)))])) rfl (hb hby d1_1) _ kk) ?_
    show own_Fin _ _ _ _ _ _ _ (T0.setTop (mkF m 4 #[.val (.ref x0), .val (.int p4), .val (.long (own_sr q2 (7 * i))), .second] [(.long (128 : Int64)), (.long (own_sr q2 (7 * i)))]))
    refine own_of (fun _ kk => XS.lcmp X0.here hx rfl (hb hby d1_4) rfl kk) ?_
    show own_Fin _ _ _ _ _ _ _ (T0.setTop (mkF m 5 #[.val (.ref x0), .val (.int p4), .val (.long (own_sr q2 (7 * i))), .second] [(.int (lcmpW (own_sr q2 (7 * i)) (128 : Int64)))]))
    by_cases c5 : (own_sr q2 (7 * i)) < (128 : Int64)
    · refine own_of (fun _ kk => XS.ifYes X0.here hx rfl (pc0 := 5) (pc' := 29) rfl (hb hby d1_5) rfl ((if0 _ _).trans (tlt ((lw_lt _ _).mpr c5)).1) (by decide) (by decide) kk) ?_
      show own_Fin _ _ _ _ _ _ _ (T0.setTop (mkF m 29 #[.val (.ref x0), .val (.int p4), .val (.long (own_sr q2 (7 * i))), .second] []))
      refine own_of (fun _ kk => XS.aloadN X0.here hx rfl (hb hby d1_29) rfl rfl kk) ?_
      show own_Fin _ _ _ _ _ _ _ (T0.setTop (mkF m 30 #[.val (.ref x0), .val (.int p4), .val (.long (own_sr q2 (7 * i))), .second] [(.ref x0)]))
      refine own_of (fun _ kk => XS.iloadN X0.here hx rfl (hb hby d1_30) rfl kk) ?_
      show own_Fin _ _ _ _ _ _ _ (T0.setTop (mkF m 31 #[.val (.ref x0), .val (.int p4), .val (.long (own_sr q2 (7 * i))), .second] [(.int p4), (.ref x0)]))
      refine own_of (fun _ kk => XS.iinc X0.here hx rfl (hb hby d1_31) rfl (l' := #[.val (.ref x0), .val (.int (p4 + (1 : Int32))), .val (.long (own_sr q2 (7 * i))), .second]) rfl kk) ?_
      show own_Fin _ _ _ _ _ _ _ (T0.setTop (mkF m 34 #[.val (.ref x0), .val (.int (p4 + (1 : Int32))), .val (.long (own_sr q2 (7 * i))), .second] [(.int p4), (.ref x0)]))
      refine own_of (fun _ kk => XS.lloadN X0.here hx rfl (hb hby d1_34) rfl kk) ?_
      show own_Fin _ _ _ _ _ _ _ (T0.setTop (mkF m 35 #[.val (.ref x0), .val (.int (p4 + (1 : Int32))), .val (.long (own_sr q2 (7 * i))), .second] [(.long (own_sr q2 (7 * i))), (.int p4), (.ref x0)]))
      refine own_of (fun _ kk => XS.l2i X0.here hx rfl (hb hby d1_35) rfl kk) ?_
      show own_Fin _ _ _ _ _ _ _ (T0.setTop (mkF m 36 #[.val (.ref x0), .val (.int (p4 + (1 : Int32))), .val (.long (own_sr q2 (7 * i))), .second] [(.int (own_sr q2 (7 * i)).toInt32), (.int p4), (.ref x0)]))
      refine own_of (fun _ kk => XS.i2b X0.here hx rfl (hb hby d1_36) rfl kk) ?_
      show own_Fin _ _ _ _ _ _ _ (T0.setTop (mkF m 37 #[.val (.ref x0), .val (.int (p4 + (1 : Int32))), .val (.long (own_sr q2 (7 * i))), .second] [(.int (own_i2b (own_sr q2 (7 * i)).toInt32)), (.int p4), (.ref x0)]))
      refine own_bastore X0 hx hZ e0 A N0 ge (i := (a + i)) hp (by omega) (hb hby d1_37) ?_
      intro T1 h1 l1 X1 N1 e1 W1 A1
      replace A1 : own_Arf Z h1 x0 .byte n (fun j => if j = (a + i) then (.int (own_i2b (own_i2b (own_sr q2 (7 * i)).toInt32))) else (fun j => .int (own_w a q2 f i j)) j) := A1
      have ZW1 : n0 ≤ h1.size := by rw [Wr.size W1]; exact Z0
      show own_Fin _ _ _ _ _ _ _ (T1.setTop (mkF m 38 #[.val (.ref x0), .val (.int (p4 + (1 : Int32))), .val (.long (own_sr q2 (7 * i))), .second] []))
      refine own_of (fun _ kk => XS.iloadN X1.here hx rfl (hb hby d1_38) rfl kk) ?_
      show own_Fin _ _ _ _ _ _ _ (T1.setTop (mkF m 39 #[.val (.ref x0), .val (.int (p4 + (1 : Int32))), .val (.long (own_sr q2 (7 * i))), .second] [(.int (p4 + (1 : Int32)))]))
      exact own_retI X1 hx hlk e1 hret (hb hby d1_39) (by decide) (by decide) ⟨i, _, rfl, N1, ZW1, by omega, own_p1 hp (by omega), hcs, not_not_intro c5, A1.congr fun j _ => own_wlast a q2 f i j⟩
    · refine own_of (fun _ kk => XS.ifNo X0.here hx rfl (hb hby d1_5) rfl ((if0 _ _).trans (flt (mt (lw_lt _ _).mp c5)).1) kk) ?_
      show own_Fin _ _ _ _ _ _ _ (T0.setTop (mkF m 8 #[.val (.ref x0), .val (.int p4), .val (.long (own_sr q2 (7 * i))), .second] []))
      refine own_of (fun _ kk => XS.aloadN X0.here hx rfl (hb hby d1_8) rfl rfl kk) ?_
      show own_Fin _ _ _ _ _ _ _ (T0.setTop (mkF m 9 #[.val (.ref x0), .val (.int p4), .val (.long (own_sr q2 (7 * i))), .second] [(.ref x0)]))
      refine own_of (fun _ kk => XS.iloadN X0.here hx rfl (hb hby d1_9) rfl kk) ?_
      show own_Fin _ _ _ _ _ _ _ (T0.setTop (mkF m 10 #[.val (.ref x0), .val (.int p4), .val (.long (own_sr q2 (7 * i))), .second] [(.int p4), (.ref x0)]))
      refine own_of (fun _ kk => XS.iinc X0.here hx rfl (hb hby d1_10) rfl (l' := #[.val (.ref x0), .val (.int (p4 + (1 : Int32))), .val (.long (own_sr q2 (7 * i))), .second]) rfl kk) ?_
      show own_Fin _ _ _ _ _ _ _ (T0.setTop (mkF m 13 #[.val (.ref x0), .val (.int (p4 + (1 : Int32))), .val (.long (own_sr q2 (7 * i))), .second] [(.int p4), (.ref x0)]))
      refine own_of (fun _ kk => XS.lloadN X0.here hx rfl (hb hby d1_13) rfl kk) ?_
      show own_Fin _ _ _ _ _ _ _ (T0.setTop (mkF m 14 #[.val (.ref x0), .val (.int (p4 + (1 : Int32))), .val (.long (own_sr q2 (7 * i))), .second] [(.long (own_sr q2 (7 * i))), (.int p4), (.ref x0)]))
      refine own_of (fun _ kk => X0.ldc2Long hx hown (mvT hZ (hw _ (List.mem_of_getElem? (i := 7) rfl))) (g := (mkF m 14 #[.val (.ref x0), .val (.int (p4 + (1 : Int32))), .val (.long (own_sr q2 (7 * i))), .second] [(.long (own_sr q2 (7 * i))), (.int p4), (.ref x0)])) rfl (hb hby d1_14) _ kk) ?_
      show own_Fin _ _ _ _ _ _ _ (T0.setTop (mkF m 17 #[.val (.ref x0), .val (.int (p4 + (1 : Int32))), .val (.long (own_sr q2 (7 * i))), .second] [(.long (128 : Int64)), (.long (own_sr q2 (7 * i))), (.int p4), (.ref x0)]))
      refine own_of (fun _ kk => XS.lor X0.here hx rfl (hb hby d1_17) rfl kk) ?_
      show own_Fin _ _ _ _ _ _ _ (T0.setTop (mkF m 18 #[.val (.ref x0), .val (.int (p4 + (1 : Int32))), .val (.long (own_sr q2 (7 * i))), .second] [(.long ((own_sr q2 (7 * i)) ||| (128 : Int64))), (.int p4), (.ref x0)]))
      refine own_of (fun _ kk => XS.l2i X0.here hx rfl (hb hby d1_18) rfl kk) ?_
      show own_Fin _ _ _ _ _ _ _ (T0.setTop (mkF m 19 #[.val (.ref x0), .val (.int (p4 + (1 : Int32))), .val (.long (own_sr q2 (7 * i))), .second] [(.int ((own_sr q2 (7 * i)) ||| (128 : Int64)).toInt32), (.int p4), (.ref x0)]))
      refine own_of (fun _ kk => XS.i2b X0.here hx rfl (hb hby d1_19) rfl kk) ?_
      show own_Fin _ _ _ _ _ _ _ (T0.setTop (mkF m 20 #[.val (.ref x0), .val (.int (p4 + (1 : Int32))), .val (.long (own_sr q2 (7 * i))), .second] [(.int (own_i2b ((own_sr q2 (7 * i)) ||| (128 : Int64)).toInt32)), (.int p4), (.ref x0)]))
      refine own_bastore X0 hx hZ e0 A N0 ge (i := (a + i)) hp (by omega) (hb hby d1_20) ?_
      intro T2 h2 l2 X2 N2 e2 W2 A2
      replace A2 : own_Arf Z h2 x0 .byte n (fun j => if j = (a + i) then (.int (own_i2b (own_i2b ((own_sr q2 (7 * i)) ||| (128 : Int64)).toInt32))) else (fun j => .int (own_w a q2 f i j)) j) := A2
      have ZW2 : n0 ≤ h2.size := by rw [Wr.size W2]; exact Z0
      show own_Fin _ _ _ _ _ _ _ (T2.setTop (mkF m 21 #[.val (.ref x0), .val (.int (p4 + (1 : Int32))), .val (.long (own_sr q2 (7 * i))), .second] []))
      refine own_of (fun _ kk => XS.lloadN X2.here hx rfl (hb hby d1_21) rfl kk) ?_
      show own_Fin _ _ _ _ _ _ _ (T2.setTop (mkF m 22 #[.val (.ref x0), .val (.int (p4 + (1 : Int32))), .val (.long (own_sr q2 (7 * i))), .second] [(.long (own_sr q2 (7 * i)))]))
      refine own_of (fun _ kk => XS.bipush X2.here hx rfl (hb hby d1_22) kk) ?_
      show own_Fin _ _ _ _ _ _ _ (T2.setTop (mkF m 24 #[.val (.ref x0), .val (.int (p4 + (1 : Int32))), .val (.long (own_sr q2 (7 * i))), .second] [(.int (7 : Int32)), (.long (own_sr q2 (7 * i)))]))
      refine own_of (fun _ kk => XS.lushr X2.here hx rfl (hb hby d1_24) rfl kk) ?_
      show own_Fin _ _ _ _ _ _ _ (T2.setTop (mkF m 25 #[.val (.ref x0), .val (.int (p4 + (1 : Int32))), .val (.long (own_sr q2 (7 * i))), .second] [(.long (own_lushr (own_sr q2 (7 * i)) (7 : Int32)))]))
      refine own_of (fun _ kk => XS.lstoreN X2.here hx rfl (hb hby d1_25) rfl (l' := #[.val (.ref x0), .val (.int (p4 + (1 : Int32))), .val (.long (own_lushr (own_sr q2 (7 * i)) (7 : Int32))), .second]) rfl kk) ?_
      show own_Fin _ _ _ _ _ _ _ (T2.setTop (mkF m 26 #[.val (.ref x0), .val (.int (p4 + (1 : Int32))), .val (.long (own_lushr (own_sr q2 (7 * i)) (7 : Int32))), .second] []))
      refine own_of (fun _ kk => XS.goto X2.here hx rfl (pc0 := 26) (pc' := 0) rfl (hb hby d1_26) (by decide) (by decide) kk) ?_
      show own_Fin _ _ _ _ _ _ _ (T2.setTop (mkF m 0 #[.val (.ref x0), .val (.int (p4 + (1 : Int32))), .val (.long (own_lushr (own_sr q2 (7 * i)) (7 : Int32))), .second] []))
      rw [own_turn q2 i]
      exact ih (i + 1) (p4 + 1) T2 _ h2 X2 N2 ZW2 e2 (by omega) (own_p1 hp (by omega)) (fun t ht => by rcases Nat.lt_succ_iff_lt_or_eq.mp ht with h | h; exact hcs t h; subst h; exact c5) (A2.congr fun j _ => own_wstep a q2 f i j)
set_option maxRecDepth 65536 in
set_option maxHeartbeats 40000000 in
theorem met1 (l : Launch) (Z : State) (a0 : Array Value) (hw : ∀ d ∈ tables_1, d.before a0 Z = true) (x0 : Addr) (x1 : Int32) (x2 : Int64) (a : Nat) (n : Nat) (f : Nat → Int32) (h0 : Heap) (n0 : Nat) (Z0 : n0 ≤ h0.size) (hv : x2.toBitVec.toNat < 2 ^ 63) (ge : n0 ≤ x0) (han : a + 9 ≤ n) (hn : n ≤ 16) (ha : x1.toInt = (a : Int)) (A : own_Arf Z h0 x0 .byte n (fun j => .int (f j))) :
    own_Met l Z (⟨"com/example/vestwright/vestwright/csv/ExternalSort", "putVarLong", "([BIJ)I"⟩ : MethodName) prog_18_method_16_code 4 (some .int) { frames := 0, cells := 0, slots := 0, locals := 0 } #[(.ref x0), (.int x1), (.long x2)] h0 (fun v h L => ∃ (k : Nat) (z : Int32), v = some (.int z) ∧ Fr n0 L ∧ n0 ≤ h.size ∧ k ≤ 8 ∧ z.toInt = ((a + (k + 1) : Nat) : Int) ∧ (∀ t, t < k → own_cont x2 t) ∧ ¬ own_cont x2 k ∧ own_Arf Z h x0 .byte n (fun j => .int (own_w2 a x2 f k j))) := by
  refine own_met pn_1 ?_
  intro p e s m below meth c T0 X0 hx hby hml hown hZ e0 hret hlk hnm
  rw [ef_1 m x0 x1 x2]
  have N0 := Fr.nil n0
  show own_Fin _ _ _ _ _ _ _ (T0.setTop (mkF m 0 #[.val (.ref x0), .val (.int x1), .val (.long x2), .second] []))
  have hs0 : own_sr x2 (7 * 0) = x2 := own_inj (by rw [own_sr_nat]; simp)
  rw [show #[Slot.val (.ref x0), .val (.int x1), .val (.long x2), .second] = #[Slot.val (.ref x0), .val (.int x1), .val (.long (own_sr x2 (7 * 0))), .second] by rw [hs0]]
  exact own_loop1 l Z a0 hw x0 x1 x2 x2 a n f n0 hx hby hml hown hZ hret hlk hv ge han hn 8 0 x1 T0 _ h0 X0 N0 Z0 e0 (by omega) (by simpa using ha) (fun t ht => absurd ht (Nat.not_lt_zero t)) (A.congr fun j _ => congrArg Value.int (own_w0 a x2 f j))
def own_m2_62a (x1 : Int32) (x2 : Int32) (x5 : Int32) (x4 : Int32) (x3 : Int64) : Int32 := (if (x1 - x2) < (0 : Int32) then x5 else (if (x1 - x2) < x4 then (if (x1 - x2) < (x4 - (1 : Int32)) then (((own_lushr x3 ((7 : Int32) * (x1 - x2))) &&& (127 : Int64)).toInt32 ||| (128 : Int32)) else ((own_lushr x3 ((7 : Int32) * (x1 - x2))) &&& (127 : Int64)).toInt32) else x5))
set_option maxRecDepth 65536 in
set_option maxHeartbeats 40000000 in
theorem met2 (l : Launch) (Z : State) (a0 : Array Value) (hw : ∀ d ∈ tables_1, d.before a0 Z = true) (x0 : Addr) (x1 : Int32) (x2 : Int32) (x3 : Int64) (x4 : Int32) (x5 : Int32) (n : Nat) (f : Nat → Int32) (i : Nat) (r : Int32) (h0 : Heap) (n0 : Nat) (Z0 : n0 ≤ h0.size) (A : own_Arf Z h0 x0 .byte n (fun j => .int (f j))) (hj : x1.toInt = (i : Int)) (hi : i < n) (hv : f i = r) (hok : r = (own_i2b (own_m2_62a x1 x2 x5 x4 x3))) :
    own_Met l Z (⟨"com/example/vestwright/vestwright/csv/ExternalSortPutVarLongPinLaw", "ok", "([BIIJIB)Z"⟩ : MethodName) method_3_code 10 (some .boolean) { frames := 0, cells := 0, slots := 0, locals := 0 } #[(.ref x0), (.int x1), (.int x2), (.long x3), (.int x4), (.int x5)] h0 (fun v h L => own_Pure (.int 1) h0 v h L) := by
  refine own_met pn_2 ?_
  intro p e s m below meth c T0 X0 hx hby hml hown hZ e0 hret hlk hnm
  rw [ef_2 m x0 x1 x2 x3 x4 x5]
  have N0 := Fr.nil n0
  show own_Fin _ _ _ _ _ _ _ (T0.setTop (mkF m 0 #[.val (.ref x0), .val (.int x1), .val (.int x2), .val (.long x3), .second, .val (.int x4), .val (.int x5), .unset, .unset, .unset] []))
  refine own_of (fun _ kk => XS.iloadN X0.here hx rfl (hb hby d2_0) rfl kk) ?_
  show own_Fin _ _ _ _ _ _ _ (T0.setTop (mkF m 1 #[.val (.ref x0), .val (.int x1), .val (.int x2), .val (.long x3), .second, .val (.int x4), .val (.int x5), .unset, .unset, .unset] [(.int x1)]))
  refine own_of (fun _ kk => XS.iloadN X0.here hx rfl (hb hby d2_1) rfl kk) ?_
  show own_Fin _ _ _ _ _ _ _ (T0.setTop (mkF m 2 #[.val (.ref x0), .val (.int x1), .val (.int x2), .val (.long x3), .second, .val (.int x4), .val (.int x5), .unset, .unset, .unset] [(.int x2), (.int x1)]))
  refine own_of (fun _ kk => XS.isub X0.here hx rfl (hb hby d2_2) rfl kk) ?_
  show own_Fin _ _ _ _ _ _ _ (T0.setTop (mkF m 3 #[.val (.ref x0), .val (.int x1), .val (.int x2), .val (.long x3), .second, .val (.int x4), .val (.int x5), .unset, .unset, .unset] [(.int (x1 - x2))]))
  refine own_of (fun _ kk => XS.istore X0.here hx rfl (hb hby d2_3) rfl (l' := #[.val (.ref x0), .val (.int x1), .val (.int x2), .val (.long x3), .second, .val (.int x4), .val (.int x5), .val (.int (x1 - x2)), .unset, .unset]) rfl kk) ?_
  show own_Fin _ _ _ _ _ _ _ (T0.setTop (mkF m 5 #[.val (.ref x0), .val (.int x1), .val (.int x2), .val (.long x3), .second, .val (.int x4), .val (.int x5), .val (.int (x1 - x2)), .unset, .unset] []))
  refine own_of (fun _ kk => XS.iload X0.here hx rfl (hb hby d2_5) rfl kk) ?_
  show own_Fin _ _ _ _ _ _ _ (T0.setTop (mkF m 7 #[.val (.ref x0), .val (.int x1), .val (.int x2), .val (.long x3), .second, .val (.int x4), .val (.int x5), .val (.int (x1 - x2)), .unset, .unset] [(.int (x1 - x2))]))
  suffices k1 : own_Fin _ _ _ _ _ _ _ (T0.setTop (mkF m 62 #[.val (.ref x0), .val (.int x1), .val (.int x2), .val (.long x3), .second, .val (.int x4), .val (.int x5), .val (.int (x1 - x2)), .val (.int (own_m2_62a x1 x2 x5 x4 x3)), (if (x1 - x2) < (0 : Int32) then (.unset : Slot) else (if (x1 - x2) < x4 then (.val (.int ((own_lushr x3 ((7 : Int32) * (x1 - x2))) &&& (127 : Int64)).toInt32) : Slot) else (.unset : Slot)))] [])) by
    by_cases c7 : (x1 - x2) < (0 : Int32)
    · refine own_of (fun _ kk => XS.ifYes X0.here hx rfl (pc0 := 7) (pc' := 17) rfl (hb hby d2_7) rfl ((if0 _ _).trans (tlt c7).1) (by decide) (by decide) kk) ?_
      show own_Fin _ _ _ _ _ _ _ (T0.setTop (mkF m 17 #[.val (.ref x0), .val (.int x1), .val (.int x2), .val (.long x3), .second, .val (.int x4), .val (.int x5), .val (.int (x1 - x2)), .unset, .unset] []))
      refine own_of (fun _ kk => XS.iload X0.here hx rfl (hb hby d2_17) rfl kk) ?_
      show own_Fin _ _ _ _ _ _ _ (T0.setTop (mkF m 19 #[.val (.ref x0), .val (.int x1), .val (.int x2), .val (.long x3), .second, .val (.int x4), .val (.int x5), .val (.int (x1 - x2)), .unset, .unset] [(.int x5)]))
      refine own_of (fun _ kk => XS.istore X0.here hx rfl (hb hby d2_19) rfl (l' := #[.val (.ref x0), .val (.int x1), .val (.int x2), .val (.long x3), .second, .val (.int x4), .val (.int x5), .val (.int (x1 - x2)), .val (.int x5), .unset]) rfl kk) ?_
      show own_Fin _ _ _ _ _ _ _ (T0.setTop (mkF m 21 #[.val (.ref x0), .val (.int x1), .val (.int x2), .val (.long x3), .second, .val (.int x4), .val (.int x5), .val (.int (x1 - x2)), .val (.int x5), .unset] []))
      refine own_of (fun _ kk => XS.goto X0.here hx rfl (pc0 := 21) (pc' := 62) rfl (hb hby d2_21) (by decide) (by decide) kk) ?_
      show own_Fin _ _ _ _ _ _ _ (T0.setTop (mkF m 62 #[.val (.ref x0), .val (.int x1), .val (.int x2), .val (.long x3), .second, .val (.int x4), .val (.int x5), .val (.int (x1 - x2)), .val (.int x5), .unset] []))
      simp only [own_m2_62a, if_pos c7] at k1 ⊢
      exact k1
    · refine own_of (fun _ kk => XS.ifNo X0.here hx rfl (hb hby d2_7) rfl ((if0 _ _).trans (flt c7).1) kk) ?_
      show own_Fin _ _ _ _ _ _ _ (T0.setTop (mkF m 10 #[.val (.ref x0), .val (.int x1), .val (.int x2), .val (.long x3), .second, .val (.int x4), .val (.int x5), .val (.int (x1 - x2)), .unset, .unset] []))
      refine own_of (fun _ kk => XS.iload X0.here hx rfl (hb hby d2_10) rfl kk) ?_
      show own_Fin _ _ _ _ _ _ _ (T0.setTop (mkF m 12 #[.val (.ref x0), .val (.int x1), .val (.int x2), .val (.long x3), .second, .val (.int x4), .val (.int x5), .val (.int (x1 - x2)), .unset, .unset] [(.int (x1 - x2))]))
      refine own_of (fun _ kk => XS.iload X0.here hx rfl (hb hby d2_12) rfl kk) ?_
      show own_Fin _ _ _ _ _ _ _ (T0.setTop (mkF m 14 #[.val (.ref x0), .val (.int x1), .val (.int x2), .val (.long x3), .second, .val (.int x4), .val (.int x5), .val (.int (x1 - x2)), .unset, .unset] [(.int x4), (.int (x1 - x2))]))
      by_cases c14 : (x1 - x2) < x4
      · refine own_of (fun _ kk => XS.icmpYes X0.here hx rfl (pc0 := 14) (pc' := 24) rfl (hb hby d2_14) rfl (tlt c14).1 (by decide) (by decide) kk) ?_
        show own_Fin _ _ _ _ _ _ _ (T0.setTop (mkF m 24 #[.val (.ref x0), .val (.int x1), .val (.int x2), .val (.long x3), .second, .val (.int x4), .val (.int x5), .val (.int (x1 - x2)), .unset, .unset] []))
        refine own_of (fun _ kk => XS.lloadN X0.here hx rfl (hb hby d2_24) rfl kk) ?_
        show own_Fin _ _ _ _ _ _ _ (T0.setTop (mkF m 25 #[.val (.ref x0), .val (.int x1), .val (.int x2), .val (.long x3), .second, .val (.int x4), .val (.int x5), .val (.int (x1 - x2)), .unset, .unset] [(.long x3)]))
        refine own_of (fun _ kk => XS.bipush X0.here hx rfl (hb hby d2_25) kk) ?_
        show own_Fin _ _ _ _ _ _ _ (T0.setTop (mkF m 27 #[.val (.ref x0), .val (.int x1), .val (.int x2), .val (.long x3), .second, .val (.int x4), .val (.int x5), .val (.int (x1 - x2)), .unset, .unset] [(.int (7 : Int32)), (.long x3)]))
        refine own_of (fun _ kk => XS.iload X0.here hx rfl (hb hby d2_27) rfl kk) ?_
        show own_Fin _ _ _ _ _ _ _ (T0.setTop (mkF m 29 #[.val (.ref x0), .val (.int x1), .val (.int x2), .val (.long x3), .second, .val (.int x4), .val (.int x5), .val (.int (x1 - x2)), .unset, .unset] [(.int (x1 - x2)), (.int (7 : Int32)), (.long x3)]))
        refine own_of (fun _ kk => XS.imul X0.here hx rfl (hb hby d2_29) rfl kk) ?_
        show own_Fin _ _ _ _ _ _ _ (T0.setTop (mkF m 30 #[.val (.ref x0), .val (.int x1), .val (.int x2), .val (.long x3), .second, .val (.int x4), .val (.int x5), .val (.int (x1 - x2)), .unset, .unset] [(.int ((7 : Int32) * (x1 - x2))), (.long x3)]))
        refine own_of (fun _ kk => XS.lushr X0.here hx rfl (hb hby d2_30) rfl kk) ?_
        show own_Fin _ _ _ _ _ _ _ (T0.setTop (mkF m 31 #[.val (.ref x0), .val (.int x1), .val (.int x2), .val (.long x3), .second, .val (.int x4), .val (.int x5), .val (.int (x1 - x2)), .unset, .unset] [(.long (own_lushr x3 ((7 : Int32) * (x1 - x2))))]))
        refine own_of (fun _ kk => X0.ldc2Long hx hown (mvT hZ (hw _ (List.mem_of_getElem? (i := 12) rfl))) (g := (mkF m 31 #[.val (.ref x0), .val (.int x1), .val (.int x2), .val (.long x3), .second, .val (.int x4), .val (.int x5), .val (.int (x1 - x2)), .unset, .unset] [(.long (own_lushr x3 ((7 : Int32) * (x1 - x2))))])) rfl (hb hby d2_31) _ kk) ?_
        show own_Fin _ _ _ _ _ _ _ (T0.setTop (mkF m 34 #[.val (.ref x0), .val (.int x1), .val (.int x2), .val (.long x3), .second, .val (.int x4), .val (.int x5), .val (.int (x1 - x2)), .unset, .unset] [(.long (127 : Int64)), (.long (own_lushr x3 ((7 : Int32) * (x1 - x2))))]))
        refine own_of (fun _ kk => XS.land X0.here hx rfl (hb hby d2_34) rfl kk) ?_
        show own_Fin _ _ _ _ _ _ _ (T0.setTop (mkF m 35 #[.val (.ref x0), .val (.int x1), .val (.int x2), .val (.long x3), .second, .val (.int x4), .val (.int x5), .val (.int (x1 - x2)), .unset, .unset] [(.long ((own_lushr x3 ((7 : Int32) * (x1 - x2))) &&& (127 : Int64)))]))
        refine own_of (fun _ kk => XS.l2i X0.here hx rfl (hb hby d2_35) rfl kk) ?_
        show own_Fin _ _ _ _ _ _ _ (T0.setTop (mkF m 36 #[.val (.ref x0), .val (.int x1), .val (.int x2), .val (.long x3), .second, .val (.int x4), .val (.int x5), .val (.int (x1 - x2)), .unset, .unset] [(.int ((own_lushr x3 ((7 : Int32) * (x1 - x2))) &&& (127 : Int64)).toInt32)]))
        refine own_of (fun _ kk => XS.istore X0.here hx rfl (hb hby d2_36) rfl (l' := #[.val (.ref x0), .val (.int x1), .val (.int x2), .val (.long x3), .second, .val (.int x4), .val (.int x5), .val (.int (x1 - x2)), .unset, .val (.int ((own_lushr x3 ((7 : Int32) * (x1 - x2))) &&& (127 : Int64)).toInt32)]) rfl kk) ?_
        show own_Fin _ _ _ _ _ _ _ (T0.setTop (mkF m 38 #[.val (.ref x0), .val (.int x1), .val (.int x2), .val (.long x3), .second, .val (.int x4), .val (.int x5), .val (.int (x1 - x2)), .unset, .val (.int ((own_lushr x3 ((7 : Int32) * (x1 - x2))) &&& (127 : Int64)).toInt32)] []))
        refine own_of (fun _ kk => XS.iload X0.here hx rfl (hb hby d2_38) rfl kk) ?_
        show own_Fin _ _ _ _ _ _ _ (T0.setTop (mkF m 40 #[.val (.ref x0), .val (.int x1), .val (.int x2), .val (.long x3), .second, .val (.int x4), .val (.int x5), .val (.int (x1 - x2)), .unset, .val (.int ((own_lushr x3 ((7 : Int32) * (x1 - x2))) &&& (127 : Int64)).toInt32)] [(.int (x1 - x2))]))
        refine own_of (fun _ kk => XS.iload X0.here hx rfl (hb hby d2_40) rfl kk) ?_
        show own_Fin _ _ _ _ _ _ _ (T0.setTop (mkF m 42 #[.val (.ref x0), .val (.int x1), .val (.int x2), .val (.long x3), .second, .val (.int x4), .val (.int x5), .val (.int (x1 - x2)), .unset, .val (.int ((own_lushr x3 ((7 : Int32) * (x1 - x2))) &&& (127 : Int64)).toInt32)] [(.int x4), (.int (x1 - x2))]))
        refine own_of (fun _ kk => XS.iconst X0.here hx rfl (hb hby d2_42) kk) ?_
        show own_Fin _ _ _ _ _ _ _ (T0.setTop (mkF m 43 #[.val (.ref x0), .val (.int x1), .val (.int x2), .val (.long x3), .second, .val (.int x4), .val (.int x5), .val (.int (x1 - x2)), .unset, .val (.int ((own_lushr x3 ((7 : Int32) * (x1 - x2))) &&& (127 : Int64)).toInt32)] [(.int (1 : Int32)), (.int x4), (.int (x1 - x2))]))
        refine own_of (fun _ kk => XS.isub X0.here hx rfl (hb hby d2_43) rfl kk) ?_
        show own_Fin _ _ _ _ _ _ _ (T0.setTop (mkF m 44 #[.val (.ref x0), .val (.int x1), .val (.int x2), .val (.long x3), .second, .val (.int x4), .val (.int x5), .val (.int (x1 - x2)), .unset, .val (.int ((own_lushr x3 ((7 : Int32) * (x1 - x2))) &&& (127 : Int64)).toInt32)] [(.int (x4 - (1 : Int32))), (.int (x1 - x2))]))
        by_cases c44 : (x1 - x2) < (x4 - (1 : Int32))
        · refine own_of (fun _ kk => XS.icmpNo X0.here hx rfl (hb hby d2_44) rfl (tlt c44).2.1 kk) ?_
          show own_Fin _ _ _ _ _ _ _ (T0.setTop (mkF m 47 #[.val (.ref x0), .val (.int x1), .val (.int x2), .val (.long x3), .second, .val (.int x4), .val (.int x5), .val (.int (x1 - x2)), .unset, .val (.int ((own_lushr x3 ((7 : Int32) * (x1 - x2))) &&& (127 : Int64)).toInt32)] []))
          refine own_of (fun _ kk => XS.iload X0.here hx rfl (hb hby d2_47) rfl kk) ?_
          show own_Fin _ _ _ _ _ _ _ (T0.setTop (mkF m 49 #[.val (.ref x0), .val (.int x1), .val (.int x2), .val (.long x3), .second, .val (.int x4), .val (.int x5), .val (.int (x1 - x2)), .unset, .val (.int ((own_lushr x3 ((7 : Int32) * (x1 - x2))) &&& (127 : Int64)).toInt32)] [(.int ((own_lushr x3 ((7 : Int32) * (x1 - x2))) &&& (127 : Int64)).toInt32)]))
          refine own_of (fun _ kk => XS.sipush X0.here hx rfl (hb hby d2_49) kk) ?_
          show own_Fin _ _ _ _ _ _ _ (T0.setTop (mkF m 52 #[.val (.ref x0), .val (.int x1), .val (.int x2), .val (.long x3), .second, .val (.int x4), .val (.int x5), .val (.int (x1 - x2)), .unset, .val (.int ((own_lushr x3 ((7 : Int32) * (x1 - x2))) &&& (127 : Int64)).toInt32)] [(.int (128 : Int32)), (.int ((own_lushr x3 ((7 : Int32) * (x1 - x2))) &&& (127 : Int64)).toInt32)]))
          refine own_of (fun _ kk => XS.ior X0.here hx rfl (hb hby d2_52) rfl kk) ?_
          show own_Fin _ _ _ _ _ _ _ (T0.setTop (mkF m 53 #[.val (.ref x0), .val (.int x1), .val (.int x2), .val (.long x3), .second, .val (.int x4), .val (.int x5), .val (.int (x1 - x2)), .unset, .val (.int ((own_lushr x3 ((7 : Int32) * (x1 - x2))) &&& (127 : Int64)).toInt32)] [(.int (((own_lushr x3 ((7 : Int32) * (x1 - x2))) &&& (127 : Int64)).toInt32 ||| (128 : Int32)))]))
          refine own_of (fun _ kk => XS.istore X0.here hx rfl (hb hby d2_53) rfl (l' := #[.val (.ref x0), .val (.int x1), .val (.int x2), .val (.long x3), .second, .val (.int x4), .val (.int x5), .val (.int (x1 - x2)), .val (.int (((own_lushr x3 ((7 : Int32) * (x1 - x2))) &&& (127 : Int64)).toInt32 ||| (128 : Int32))), .val (.int ((own_lushr x3 ((7 : Int32) * (x1 - x2))) &&& (127 : Int64)).toInt32)]) rfl kk) ?_
          show own_Fin _ _ _ _ _ _ _ (T0.setTop (mkF m 55 #[.val (.ref x0), .val (.int x1), .val (.int x2), .val (.long x3), .second, .val (.int x4), .val (.int x5), .val (.int (x1 - x2)), .val (.int (((own_lushr x3 ((7 : Int32) * (x1 - x2))) &&& (127 : Int64)).toInt32 ||| (128 : Int32))), .val (.int ((own_lushr x3 ((7 : Int32) * (x1 - x2))) &&& (127 : Int64)).toInt32)] []))
          refine own_of (fun _ kk => XS.goto X0.here hx rfl (pc0 := 55) (pc' := 62) rfl (hb hby d2_55) (by decide) (by decide) kk) ?_
          show own_Fin _ _ _ _ _ _ _ (T0.setTop (mkF m 62 #[.val (.ref x0), .val (.int x1), .val (.int x2), .val (.long x3), .second, .val (.int x4), .val (.int x5), .val (.int (x1 - x2)), .val (.int (((own_lushr x3 ((7 : Int32) * (x1 - x2))) &&& (127 : Int64)).toInt32 ||| (128 : Int32))), .val (.int ((own_lushr x3 ((7 : Int32) * (x1 - x2))) &&& (127 : Int64)).toInt32)] []))
          simp only [own_m2_62a, if_neg c7, if_pos c14, if_pos c44] at k1 ⊢
          exact k1
        · refine own_of (fun _ kk => XS.icmpYes X0.here hx rfl (pc0 := 44) (pc' := 58) rfl (hb hby d2_44) rfl (flt c44).2.1 (by decide) (by decide) kk) ?_
          show own_Fin _ _ _ _ _ _ _ (T0.setTop (mkF m 58 #[.val (.ref x0), .val (.int x1), .val (.int x2), .val (.long x3), .second, .val (.int x4), .val (.int x5), .val (.int (x1 - x2)), .unset, .val (.int ((own_lushr x3 ((7 : Int32) * (x1 - x2))) &&& (127 : Int64)).toInt32)] []))
          refine own_of (fun _ kk => XS.iload X0.here hx rfl (hb hby d2_58) rfl kk) ?_
          show own_Fin _ _ _ _ _ _ _ (T0.setTop (mkF m 60 #[.val (.ref x0), .val (.int x1), .val (.int x2), .val (.long x3), .second, .val (.int x4), .val (.int x5), .val (.int (x1 - x2)), .unset, .val (.int ((own_lushr x3 ((7 : Int32) * (x1 - x2))) &&& (127 : Int64)).toInt32)] [(.int ((own_lushr x3 ((7 : Int32) * (x1 - x2))) &&& (127 : Int64)).toInt32)]))
          refine own_of (fun _ kk => XS.istore X0.here hx rfl (hb hby d2_60) rfl (l' := #[.val (.ref x0), .val (.int x1), .val (.int x2), .val (.long x3), .second, .val (.int x4), .val (.int x5), .val (.int (x1 - x2)), .val (.int ((own_lushr x3 ((7 : Int32) * (x1 - x2))) &&& (127 : Int64)).toInt32), .val (.int ((own_lushr x3 ((7 : Int32) * (x1 - x2))) &&& (127 : Int64)).toInt32)]) rfl kk) ?_
          show own_Fin _ _ _ _ _ _ _ (T0.setTop (mkF m 62 #[.val (.ref x0), .val (.int x1), .val (.int x2), .val (.long x3), .second, .val (.int x4), .val (.int x5), .val (.int (x1 - x2)), .val (.int ((own_lushr x3 ((7 : Int32) * (x1 - x2))) &&& (127 : Int64)).toInt32), .val (.int ((own_lushr x3 ((7 : Int32) * (x1 - x2))) &&& (127 : Int64)).toInt32)] []))
          simp only [own_m2_62a, if_neg c7, if_pos c14, if_neg c44] at k1 ⊢
          exact k1
      · refine own_of (fun _ kk => XS.icmpNo X0.here hx rfl (hb hby d2_14) rfl (flt c14).1 kk) ?_
        show own_Fin _ _ _ _ _ _ _ (T0.setTop (mkF m 17 #[.val (.ref x0), .val (.int x1), .val (.int x2), .val (.long x3), .second, .val (.int x4), .val (.int x5), .val (.int (x1 - x2)), .unset, .unset] []))
        refine own_of (fun _ kk => XS.iload X0.here hx rfl (hb hby d2_17) rfl kk) ?_
        show own_Fin _ _ _ _ _ _ _ (T0.setTop (mkF m 19 #[.val (.ref x0), .val (.int x1), .val (.int x2), .val (.long x3), .second, .val (.int x4), .val (.int x5), .val (.int (x1 - x2)), .unset, .unset] [(.int x5)]))
        refine own_of (fun _ kk => XS.istore X0.here hx rfl (hb hby d2_19) rfl (l' := #[.val (.ref x0), .val (.int x1), .val (.int x2), .val (.long x3), .second, .val (.int x4), .val (.int x5), .val (.int (x1 - x2)), .val (.int x5), .unset]) rfl kk) ?_
        show own_Fin _ _ _ _ _ _ _ (T0.setTop (mkF m 21 #[.val (.ref x0), .val (.int x1), .val (.int x2), .val (.long x3), .second, .val (.int x4), .val (.int x5), .val (.int (x1 - x2)), .val (.int x5), .unset] []))
        refine own_of (fun _ kk => XS.goto X0.here hx rfl (pc0 := 21) (pc' := 62) rfl (hb hby d2_21) (by decide) (by decide) kk) ?_
        show own_Fin _ _ _ _ _ _ _ (T0.setTop (mkF m 62 #[.val (.ref x0), .val (.int x1), .val (.int x2), .val (.long x3), .second, .val (.int x4), .val (.int x5), .val (.int (x1 - x2)), .val (.int x5), .unset] []))
        simp only [own_m2_62a, if_neg c7, if_neg c14] at k1 ⊢
        exact k1
  show own_Fin _ _ _ _ _ _ _ (T0.setTop (mkF m 62 #[.val (.ref x0), .val (.int x1), .val (.int x2), .val (.long x3), .second, .val (.int x4), .val (.int x5), .val (.int (x1 - x2)), .val (.int (own_m2_62a x1 x2 x5 x4 x3)), (if (x1 - x2) < (0 : Int32) then (.unset : Slot) else (if (x1 - x2) < x4 then (.val (.int ((own_lushr x3 ((7 : Int32) * (x1 - x2))) &&& (127 : Int64)).toInt32) : Slot) else (.unset : Slot)))] []))
  refine own_of (fun _ kk => XS.aloadN X0.here hx rfl (hb hby d2_62) rfl rfl kk) ?_
  show own_Fin _ _ _ _ _ _ _ (T0.setTop (mkF m 63 #[.val (.ref x0), .val (.int x1), .val (.int x2), .val (.long x3), .second, .val (.int x4), .val (.int x5), .val (.int (x1 - x2)), .val (.int (own_m2_62a x1 x2 x5 x4 x3)), (if (x1 - x2) < (0 : Int32) then (.unset : Slot) else (if (x1 - x2) < x4 then (.val (.int ((own_lushr x3 ((7 : Int32) * (x1 - x2))) &&& (127 : Int64)).toInt32) : Slot) else (.unset : Slot)))] [(.ref x0)]))
  refine own_of (fun _ kk => XS.iloadN X0.here hx rfl (hb hby d2_63) rfl kk) ?_
  show own_Fin _ _ _ _ _ _ _ (T0.setTop (mkF m 64 #[.val (.ref x0), .val (.int x1), .val (.int x2), .val (.long x3), .second, .val (.int x4), .val (.int x5), .val (.int (x1 - x2)), .val (.int (own_m2_62a x1 x2 x5 x4 x3)), (if (x1 - x2) < (0 : Int32) then (.unset : Slot) else (if (x1 - x2) < x4 then (.val (.int ((own_lushr x3 ((7 : Int32) * (x1 - x2))) &&& (127 : Int64)).toInt32) : Slot) else (.unset : Slot)))] [(.int x1), (.ref x0)]))
  refine own_baload X0 hx hZ e0 A (i := i) hj hi (v := (.int r)) (by rw [hv]) (hb hby d2_64) ?_
  show own_Fin _ _ _ _ _ _ _ (T0.setTop (mkF m 65 #[.val (.ref x0), .val (.int x1), .val (.int x2), .val (.long x3), .second, .val (.int x4), .val (.int x5), .val (.int (x1 - x2)), .val (.int (own_m2_62a x1 x2 x5 x4 x3)), (if (x1 - x2) < (0 : Int32) then (.unset : Slot) else (if (x1 - x2) < x4 then (.val (.int ((own_lushr x3 ((7 : Int32) * (x1 - x2))) &&& (127 : Int64)).toInt32) : Slot) else (.unset : Slot)))] [(.int r)]))
  refine own_of (fun _ kk => XS.iload X0.here hx rfl (hb hby d2_65) rfl kk) ?_
  show own_Fin _ _ _ _ _ _ _ (T0.setTop (mkF m 67 #[.val (.ref x0), .val (.int x1), .val (.int x2), .val (.long x3), .second, .val (.int x4), .val (.int x5), .val (.int (x1 - x2)), .val (.int (own_m2_62a x1 x2 x5 x4 x3)), (if (x1 - x2) < (0 : Int32) then (.unset : Slot) else (if (x1 - x2) < x4 then (.val (.int ((own_lushr x3 ((7 : Int32) * (x1 - x2))) &&& (127 : Int64)).toInt32) : Slot) else (.unset : Slot)))] [(.int (own_m2_62a x1 x2 x5 x4 x3)), (.int r)]))
  refine own_of (fun _ kk => XS.i2b X0.here hx rfl (hb hby d2_67) rfl kk) ?_
  show own_Fin _ _ _ _ _ _ _ (T0.setTop (mkF m 68 #[.val (.ref x0), .val (.int x1), .val (.int x2), .val (.long x3), .second, .val (.int x4), .val (.int x5), .val (.int (x1 - x2)), .val (.int (own_m2_62a x1 x2 x5 x4 x3)), (if (x1 - x2) < (0 : Int32) then (.unset : Slot) else (if (x1 - x2) < x4 then (.val (.int ((own_lushr x3 ((7 : Int32) * (x1 - x2))) &&& (127 : Int64)).toInt32) : Slot) else (.unset : Slot)))] [(.int (own_i2b (own_m2_62a x1 x2 x5 x4 x3))), (.int r)]))
  refine own_of (fun _ kk => XS.icmpNo X0.here hx rfl (hb hby d2_68) rfl (teq hok).2 kk) ?_
  show own_Fin _ _ _ _ _ _ _ (T0.setTop (mkF m 71 #[.val (.ref x0), .val (.int x1), .val (.int x2), .val (.long x3), .second, .val (.int x4), .val (.int x5), .val (.int (x1 - x2)), .val (.int (own_m2_62a x1 x2 x5 x4 x3)), (if (x1 - x2) < (0 : Int32) then (.unset : Slot) else (if (x1 - x2) < x4 then (.val (.int ((own_lushr x3 ((7 : Int32) * (x1 - x2))) &&& (127 : Int64)).toInt32) : Slot) else (.unset : Slot)))] []))
  refine own_of (fun _ kk => XS.iconst X0.here hx rfl (hb hby d2_71) kk) ?_
  show own_Fin _ _ _ _ _ _ _ (T0.setTop (mkF m 72 #[.val (.ref x0), .val (.int x1), .val (.int x2), .val (.long x3), .second, .val (.int x4), .val (.int x5), .val (.int (x1 - x2)), .val (.int (own_m2_62a x1 x2 x5 x4 x3)), (if (x1 - x2) < (0 : Int32) then (.unset : Slot) else (if (x1 - x2) < x4 then (.val (.int ((own_lushr x3 ((7 : Int32) * (x1 - x2))) &&& (127 : Int64)).toInt32) : Slot) else (.unset : Slot)))] [(.int (1 : Int32))]))
  refine own_of (fun _ kk => XS.goto X0.here hx rfl (pc0 := 72) (pc' := 76) rfl (hb hby d2_72) (by decide) (by decide) kk) ?_
  show own_Fin _ _ _ _ _ _ _ (T0.setTop (mkF m 76 #[.val (.ref x0), .val (.int x1), .val (.int x2), .val (.long x3), .second, .val (.int x4), .val (.int x5), .val (.int (x1 - x2)), .val (.int (own_m2_62a x1 x2 x5 x4 x3)), (if (x1 - x2) < (0 : Int32) then (.unset : Slot) else (if (x1 - x2) < x4 then (.val (.int ((own_lushr x3 ((7 : Int32) * (x1 - x2))) &&& (127 : Int64)).toInt32) : Slot) else (.unset : Slot)))] [(.int (1 : Int32))]))
  exact own_retN X0 hx hlk e0 (t := .boolean) hret (by simp) (hb hby d2_76) (by decide) (by decide) (z' := (1 : Int32)) (by decide) ⟨rfl, rfl, rfl⟩
theorem own_natOf (x : Int32) (k : Nat) (h : x.toInt = (k : Int)) : x.toBitVec.toNat = k := by
  have h1 : x.toBitVec.toInt = (k : Int) := h
  have h2 := x.toBitVec.isLt
  rw [BitVec.toInt_eq_toNat_cond] at h1
  split at h1 <;> omega
theorem own_or (x : Int64) : own_i2b (x ||| (128 : Int64)).toInt32 = own_i2b ((x &&& (127 : Int64)).toInt32 ||| (128 : Int32)) := by
  show ((x ||| (128 : Int64)).toInt32).toInt8.toInt32 = (((x &&& (127 : Int64)).toInt32 ||| (128 : Int32)).toInt8).toInt32
  rw [Int64.toInt32_or, Int32.toInt8_or, Int32.toInt8_or, Int64.toInt32_and, Int32.toInt8_and]
  exact own_all8 (P := fun b => (b ||| ((128 : Int64).toInt32).toInt8).toInt32 = (b &&& ((127 : Int64).toInt32).toInt8 ||| (128 : Int32).toInt8).toInt32) (by decide +kernel) x.toInt32.toInt8
theorem own_last (x : Int64) (h : x.toBitVec.toNat < 128) : (x &&& (127 : Int64)) = x := by
  apply own_inj
  show (x.toBitVec &&& (127 : Int64).toBitVec).toNat = _
  rw [BitVec.toNat_and, show (127 : Int64).toBitVec.toNat = 2 ^ 7 - 1 by decide, Nat.and_two_pow_sub_one_eq_mod]; omega
theorem own_key (v : Int64) (hv : v.toBitVec.toNat < 2 ^ 63) (at_ sz fill q : Int32) (a k j : Nat) (f : Nat → Int32) (ha : at_.toInt = (a : Int)) (ha3 : a ≤ 7) (hk : k ≤ 8) (hs : sz.toInt = ((k + 1 : Nat) : Int)) (hq : q.toInt = (j : Int)) (hj : j < 16) (hce : ¬ own_cont v k) (hf : f j = own_i2b fill) : own_w2 a v f k j = (own_i2b (own_m2_62a q at_ fill sz v)) := by
  have k0 : (0 : Int32).toInt = 0 := by decide
  have k1 : (1 : Int32).toInt = 1 := by decide
  have k7 : (7 : Int32).toInt = 7 := by decide
  have s3 := c_isub q at_
  have s4 := rng32 (q - at_)
  have s5 := c_isub sz 1
  have s6 := rng32 (sz - 1)
  have s7 := c_imul 7 (q - at_)
  have s8 := rng32 (7 * (q - at_))
  have e1 : (q - at_ < (0 : Int32)) ↔ j < a := by rw [Int32.lt_iff_toInt_lt]; omega
  have e2 : (q - at_ < sz) ↔ j < a + (k + 1) := by rw [Int32.lt_iff_toInt_lt]; omega
  have e3 : (q - at_ < sz - 1) ↔ j < a + k := by rw [Int32.lt_iff_toInt_lt]; omega
  unfold own_m2_62a own_w2 own_w
  by_cases g1 : j < a
  · rw [if_pos (e1.mpr g1), if_neg (by omega), if_neg (by omega)]; exact hf
  · rw [if_neg (mt e1.mp g1)]
    by_cases g2 : j < a + (k + 1)
    · rw [if_pos (e2.mpr g2)]
      have t1 : (q - at_).toInt = ((j - a : Nat) : Int) := by omega
      have t2 : (7 * (q - at_)).toInt = ((7 * (j - a) : Nat) : Int) := by rw [t1, k7] at s7; omega
      have t3 : own_lushr v (7 * (q - at_)) = own_sr v (7 * (j - a)) := own_lushr_sr v _ _ (by rw [own_natOf _ _ t2]; omega)
      rw [t3]
      by_cases g3 : j < a + k
      · rw [if_pos (e3.mpr g3), if_neg (by omega), if_pos (by omega), ← own_or]; exact own_i2b_i2b _
      · rw [if_neg (mt e3.mp g3), if_pos (by omega), show j - a = k by omega, own_last _ (by rw [own_sr_nat]; have := mt (own_contN v k hv).mpr hce; omega)]; exact own_i2b_i2b _
    · rw [if_neg (mt e2.mp g2), if_neg (by omega), if_neg (by omega)]; exact hf
theorem own_at (x : Int32) : ((x &&& (2147483647 : Int32)) % (8 : Int32)).toInt = ((((x &&& (2147483647 : Int32)) % (8 : Int32)).toInt.toNat : Nat) : Int) ∧ ((x &&& (2147483647 : Int32)) % (8 : Int32)).toInt.toNat ≤ 7 := by
  have h := c_mask x 2147483647 31 (by decide) (by decide)
  have h2 := (c_irem (x &&& 2147483647) 8 8 (by decide)).1 (by rw [h]; omega)
  omega
theorem own_hv (x0 : Int64) (x1 : Int32) : (own_lushr (x0 &&& (9223372036854775807 : Int64)) (x1 &&& (63 : Int32))).toBitVec.toNat < 2 ^ 63 := by
  have q := c_maskL x0 9223372036854775807 63 (by decide) (by decide)
  have n1 := own_lushr_nat (x0 &&& 9223372036854775807) (x1 &&& 63) _ rfl
  have hx : 0 ≤ (x0 &&& 9223372036854775807).toInt := by rw [q]; omega
  rw [n1]
  generalize (x0 &&& (9223372036854775807 : Int64)) = a at *
  change 0 ≤ a.toBitVec.toInt at hx
  have := a.toBitVec.isLt
  have h2 : a.toBitVec.toNat < 2 ^ 63 := by
    rw [BitVec.toInt_eq_toNat_cond] at hx
    split at hx <;> omega
  exact Nat.lt_of_le_of_lt (Nat.div_le_self _ _) h2
theorem own_sum (z at_ sz : Int32) (a k : Nat) (ha : at_.toInt = (a : Int)) (ha3 : a ≤ 7) (hk : k ≤ 8) (hz : z.toInt = ((a + (k + 1) : Nat) : Int)) (hs : sz.toInt = ((k + 1 : Nat) : Int)) : z = at_ + sz := by
  have s1 := c_iadd at_ sz
  have s2 := rng32 (at_ + sz)
  exact Int32.toInt_inj.mp (by omega)
theorem own_nzs (v : Int64) (hv : v.toBitVec.toNat < 2 ^ 63) (q : Int32) (t : Nat) (hq : q.toBitVec.toNat % 64 = 7 * (t + 1)) (k : Nat) (h1 : ∀ t, t < k → own_cont v t) (h2 : ¬ own_cont v k) : own_lushr v q = 0 ↔ ¬ t < k := by
  rw [own_l0, own_lushr_nat v q _ hq]
  have s1 : v.toBitVec.toNat / 2 ^ (7 * (t + 1)) = v.toBitVec.toNat / 2 ^ (7 * t) / 128 := by rw [Nat.div_div_eq_div_mul, show 7 * (t + 1) = 7 * t + 7 by omega, Nat.pow_add]
  constructor
  · intro h hlt
    have := (own_contN v t hv).mp (h1 t hlt)
    omega
  · intro h
    rw [own_contN v k hv] at h2
    have : v.toBitVec.toNat / 2 ^ (7 * t) ≤ v.toBitVec.toNat / 2 ^ (7 * k) := Nat.div_le_div_left (Nat.pow_le_pow_right (by decide) (by omega)) (Nat.pow_pos (by decide))
    rw [s1]
    generalize v.toBitVec.toNat / 2 ^ (7 * t) = A at *
    generalize v.toBitVec.toNat / 2 ^ (7 * k) = D at *
    omega
def own_m0_138a (x0 : Int64) (x1 : Int32) : Int32 := (if (own_lushr (own_lushr (x0 &&& (9223372036854775807 : Int64)) (x1 &&& (63 : Int32))) (7 : Int32)) = (0 : Int64) then (1 : Int32) else (2 : Int32))
def own_m0_151a (x0 : Int64) (x1 : Int32) : Int32 := (if (own_lushr (own_lushr (x0 &&& (9223372036854775807 : Int64)) (x1 &&& (63 : Int32))) (14 : Int32)) = (0 : Int64) then (own_m0_138a x0 x1) else (3 : Int32))
def own_m0_164a (x0 : Int64) (x1 : Int32) : Int32 := (if (own_lushr (own_lushr (x0 &&& (9223372036854775807 : Int64)) (x1 &&& (63 : Int32))) (21 : Int32)) = (0 : Int64) then (own_m0_151a x0 x1) else (4 : Int32))
def own_m0_177a (x0 : Int64) (x1 : Int32) : Int32 := (if (own_lushr (own_lushr (x0 &&& (9223372036854775807 : Int64)) (x1 &&& (63 : Int32))) (28 : Int32)) = (0 : Int64) then (own_m0_164a x0 x1) else (5 : Int32))
def own_m0_191a (x0 : Int64) (x1 : Int32) : Int32 := (if (own_lushr (own_lushr (x0 &&& (9223372036854775807 : Int64)) (x1 &&& (63 : Int32))) (35 : Int32)) = (0 : Int64) then (own_m0_177a x0 x1) else (6 : Int32))
def own_m0_205a (x0 : Int64) (x1 : Int32) : Int32 := (if (own_lushr (own_lushr (x0 &&& (9223372036854775807 : Int64)) (x1 &&& (63 : Int32))) (42 : Int32)) = (0 : Int64) then (own_m0_191a x0 x1) else (7 : Int32))
def own_m0_219a (x0 : Int64) (x1 : Int32) : Int32 := (if (own_lushr (own_lushr (x0 &&& (9223372036854775807 : Int64)) (x1 &&& (63 : Int32))) (49 : Int32)) = (0 : Int64) then (own_m0_205a x0 x1) else (8 : Int32))
def own_m0_233a (x0 : Int64) (x1 : Int32) : Int32 := (if (own_lushr (own_lushr (x0 &&& (9223372036854775807 : Int64)) (x1 &&& (63 : Int32))) (56 : Int32)) = (0 : Int64) then (own_m0_219a x0 x1) else (9 : Int32))
theorem own_size (x0 : Int64) (x1 : Int32) (k : Nat) (hk : k ≤ 8) (h1 : ∀ t, t < k → own_cont (own_lushr (x0 &&& (9223372036854775807 : Int64)) (x1 &&& (63 : Int32))) t) (h2 : ¬ own_cont (own_lushr (x0 &&& (9223372036854775807 : Int64)) (x1 &&& (63 : Int32))) k) : (own_m0_233a x0 x1).toInt = ((k + 1 : Nat) : Int) := by
  have hv := own_hv x0 x1
  unfold own_m0_233a
  unfold own_m0_219a
  unfold own_m0_205a
  unfold own_m0_191a
  unfold own_m0_177a
  unfold own_m0_164a
  unfold own_m0_151a
  unfold own_m0_138a
  generalize (own_lushr (x0 &&& (9223372036854775807 : Int64)) (x1 &&& (63 : Int32))) = v at *
  have n1 := own_nzs v hv 7 0 (by decide) k h1 h2
  have n2 := own_nzs v hv 14 1 (by decide) k h1 h2
  have n3 := own_nzs v hv 21 2 (by decide) k h1 h2
  have n4 := own_nzs v hv 28 3 (by decide) k h1 h2
  have n5 := own_nzs v hv 35 4 (by decide) k h1 h2
  have n6 := own_nzs v hv 42 5 (by decide) k h1 h2
  have n7 := own_nzs v hv 49 6 (by decide) k h1 h2
  have n8 := own_nzs v hv 56 7 (by decide) k h1 h2
  obtain rfl | rfl | rfl | rfl | rfl | rfl | rfl | rfl | rfl : k = 0 ∨ k = 1 ∨ k = 2 ∨ k = 3 ∨ k = 4 ∨ k = 5 ∨ k = 6 ∨ k = 7 ∨ k = 8 := by omega
  all_goals (simp only [n1, n2, n3, n4, n5, n6, n7, n8]; decide)
set_option maxRecDepth 65536 in
set_option maxHeartbeats 40000000 in
theorem own_law (l : Launch) (Z : State) (a0 : Array Value) (hw : ∀ d ∈ tables_1, d.before a0 Z = true) (x0 : Int64) (x1 : Int32) (x2 : Int32) (x3 : Int32) (h0 : Heap) (n0 : Nat) (Z0 : n0 ≤ h0.size) :
    own_Met l Z x code maxLocals ret room_1 #[(.long x0), (.int x1), (.int x2), (.int x3)] h0 (fun v h L => v = some (.int 1) ∧ Fr n0 L) := by
  refine own_met pn_0 ?_
  intro p e s m below meth c T0 X0 hx hby hml hown hZ e0 hret hlk hnm
  replace hown : s.vm.findClass "com/example/vestwright/vestwright/csv/ExternalSortPutVarLongPinLaw" = some m.cls := hown
  replace hml : c.maxLocals = 12 := hml
  rw [ef_0 m x0 x1 x2 x3]
  have N0 := Fr.nil n0
  show own_Fin _ _ _ _ _ _ _ (T0.setTop (mkF m 0 #[.val (.long x0), .second, .val (.int x1), .val (.int x2), .val (.int x3), .unset, .unset, .unset, .unset, .unset, .unset, .unset] []))
  refine own_of (fun _ kk => XS.lloadN X0.here hx rfl (hb hby at_0) rfl kk) ?_
  show own_Fin _ _ _ _ _ _ _ (T0.setTop (mkF m 1 #[.val (.long x0), .second, .val (.int x1), .val (.int x2), .val (.int x3), .unset, .unset, .unset, .unset, .unset, .unset, .unset] [(.long x0)]))
  refine own_of (fun _ kk => X0.ldc2Long hx hown (mvT hZ (hw _ (List.mem_of_getElem? (i := 0) rfl))) (g := (mkF m 1 #[.val (.long x0), .second, .val (.int x1), .val (.int x2), .val (.int x3), .unset, .unset, .unset, .unset, .unset, .unset, .unset] [(.long x0)])) rfl (hb hby at_1) _ kk) ?_
  show own_Fin _ _ _ _ _ _ _ (T0.setTop (mkF m 4 #[.val (.long x0), .second, .val (.int x1), .val (.int x2), .val (.int x3), .unset, .unset, .unset, .unset, .unset, .unset, .unset] [(.long (9223372036854775807 : Int64)), (.long x0)]))
  refine own_of (fun _ kk => XS.land X0.here hx rfl (hb hby at_4) rfl kk) ?_
  show own_Fin _ _ _ _ _ _ _ (T0.setTop (mkF m 5 #[.val (.long x0), .second, .val (.int x1), .val (.int x2), .val (.int x3), .unset, .unset, .unset, .unset, .unset, .unset, .unset] [(.long (x0 &&& (9223372036854775807 : Int64)))]))
  refine own_of (fun _ kk => XS.iloadN X0.here hx rfl (hb hby at_5) rfl kk) ?_
  show own_Fin _ _ _ _ _ _ _ (T0.setTop (mkF m 6 #[.val (.long x0), .second, .val (.int x1), .val (.int x2), .val (.int x3), .unset, .unset, .unset, .unset, .unset, .unset, .unset] [(.int x1), (.long (x0 &&& (9223372036854775807 : Int64)))]))
  refine own_of (fun _ kk => XS.bipush X0.here hx rfl (hb hby at_6) kk) ?_
  show own_Fin _ _ _ _ _ _ _ (T0.setTop (mkF m 8 #[.val (.long x0), .second, .val (.int x1), .val (.int x2), .val (.int x3), .unset, .unset, .unset, .unset, .unset, .unset, .unset] [(.int (63 : Int32)), (.int x1), (.long (x0 &&& (9223372036854775807 : Int64)))]))
  refine own_of (fun _ kk => XS.iand X0.here hx rfl (hb hby at_8) rfl kk) ?_
  show own_Fin _ _ _ _ _ _ _ (T0.setTop (mkF m 9 #[.val (.long x0), .second, .val (.int x1), .val (.int x2), .val (.int x3), .unset, .unset, .unset, .unset, .unset, .unset, .unset] [(.int (x1 &&& (63 : Int32))), (.long (x0 &&& (9223372036854775807 : Int64)))]))
  refine own_of (fun _ kk => XS.lushr X0.here hx rfl (hb hby at_9) rfl kk) ?_
  show own_Fin _ _ _ _ _ _ _ (T0.setTop (mkF m 10 #[.val (.long x0), .second, .val (.int x1), .val (.int x2), .val (.int x3), .unset, .unset, .unset, .unset, .unset, .unset, .unset] [(.long (own_lushr (x0 &&& (9223372036854775807 : Int64)) (x1 &&& (63 : Int32))))]))
  refine own_of (fun _ kk => XS.lstore X0.here hx rfl (hb hby at_10) rfl (l' := #[.val (.long x0), .second, .val (.int x1), .val (.int x2), .val (.int x3), .val (.long (own_lushr (x0 &&& (9223372036854775807 : Int64)) (x1 &&& (63 : Int32)))), .second, .unset, .unset, .unset, .unset, .unset]) rfl kk) ?_
  show own_Fin _ _ _ _ _ _ _ (T0.setTop (mkF m 12 #[.val (.long x0), .second, .val (.int x1), .val (.int x2), .val (.int x3), .val (.long (own_lushr (x0 &&& (9223372036854775807 : Int64)) (x1 &&& (63 : Int32)))), .second, .unset, .unset, .unset, .unset, .unset] []))
  refine own_of (fun _ kk => XS.iloadN X0.here hx rfl (hb hby at_12) rfl kk) ?_
  show own_Fin _ _ _ _ _ _ _ (T0.setTop (mkF m 13 #[.val (.long x0), .second, .val (.int x1), .val (.int x2), .val (.int x3), .val (.long (own_lushr (x0 &&& (9223372036854775807 : Int64)) (x1 &&& (63 : Int32)))), .second, .unset, .unset, .unset, .unset, .unset] [(.int x2)]))
  refine own_of (fun _ kk => X0.ldcInt hx hown (mvT hZ (hw _ (List.mem_of_getElem? (i := 1) rfl))) (g := (mkF m 13 #[.val (.long x0), .second, .val (.int x1), .val (.int x2), .val (.int x3), .val (.long (own_lushr (x0 &&& (9223372036854775807 : Int64)) (x1 &&& (63 : Int32)))), .second, .unset, .unset, .unset, .unset, .unset] [(.int x2)])) rfl (hb hby at_13) _ kk) ?_
  show own_Fin _ _ _ _ _ _ _ (T0.setTop (mkF m 15 #[.val (.long x0), .second, .val (.int x1), .val (.int x2), .val (.int x3), .val (.long (own_lushr (x0 &&& (9223372036854775807 : Int64)) (x1 &&& (63 : Int32)))), .second, .unset, .unset, .unset, .unset, .unset] [(.int (2147483647 : Int32)), (.int x2)]))
  refine own_of (fun _ kk => XS.iand X0.here hx rfl (hb hby at_15) rfl kk) ?_
  show own_Fin _ _ _ _ _ _ _ (T0.setTop (mkF m 16 #[.val (.long x0), .second, .val (.int x1), .val (.int x2), .val (.int x3), .val (.long (own_lushr (x0 &&& (9223372036854775807 : Int64)) (x1 &&& (63 : Int32)))), .second, .unset, .unset, .unset, .unset, .unset] [(.int (x2 &&& (2147483647 : Int32)))]))
  refine own_of (fun _ kk => XS.bipush X0.here hx rfl (hb hby at_16) kk) ?_
  show own_Fin _ _ _ _ _ _ _ (T0.setTop (mkF m 18 #[.val (.long x0), .second, .val (.int x1), .val (.int x2), .val (.int x3), .val (.long (own_lushr (x0 &&& (9223372036854775807 : Int64)) (x1 &&& (63 : Int32)))), .second, .unset, .unset, .unset, .unset, .unset] [(.int (8 : Int32)), (.int (x2 &&& (2147483647 : Int32)))]))
  refine own_of (fun _ kk => iremM X0 hx rfl (hb hby at_18) rfl (by decide) kk) ?_
  show own_Fin _ _ _ _ _ _ _ (T0.setTop (mkF m 19 #[.val (.long x0), .second, .val (.int x1), .val (.int x2), .val (.int x3), .val (.long (own_lushr (x0 &&& (9223372036854775807 : Int64)) (x1 &&& (63 : Int32)))), .second, .unset, .unset, .unset, .unset, .unset] [(.int ((x2 &&& (2147483647 : Int32)) % (8 : Int32)))]))
  refine own_of (fun _ kk => XS.istore X0.here hx rfl (hb hby at_19) rfl (l' := #[.val (.long x0), .second, .val (.int x1), .val (.int x2), .val (.int x3), .val (.long (own_lushr (x0 &&& (9223372036854775807 : Int64)) (x1 &&& (63 : Int32)))), .second, .val (.int ((x2 &&& (2147483647 : Int32)) % (8 : Int32))), .unset, .unset, .unset, .unset]) rfl kk) ?_
  show own_Fin _ _ _ _ _ _ _ (T0.setTop (mkF m 21 #[.val (.long x0), .second, .val (.int x1), .val (.int x2), .val (.int x3), .val (.long (own_lushr (x0 &&& (9223372036854775807 : Int64)) (x1 &&& (63 : Int32)))), .second, .val (.int ((x2 &&& (2147483647 : Int32)) % (8 : Int32))), .unset, .unset, .unset, .unset] []))
  refine own_of (fun _ kk => XS.iload X0.here hx rfl (hb hby at_21) rfl kk) ?_
  show own_Fin _ _ _ _ _ _ _ (T0.setTop (mkF m 23 #[.val (.long x0), .second, .val (.int x1), .val (.int x2), .val (.int x3), .val (.long (own_lushr (x0 &&& (9223372036854775807 : Int64)) (x1 &&& (63 : Int32)))), .second, .val (.int ((x2 &&& (2147483647 : Int32)) % (8 : Int32))), .unset, .unset, .unset, .unset] [(.int x3)]))
  refine own_of (fun _ kk => XS.i2b X0.here hx rfl (hb hby at_23) rfl kk) ?_
  show own_Fin _ _ _ _ _ _ _ (T0.setTop (mkF m 24 #[.val (.long x0), .second, .val (.int x1), .val (.int x2), .val (.int x3), .val (.long (own_lushr (x0 &&& (9223372036854775807 : Int64)) (x1 &&& (63 : Int32)))), .second, .val (.int ((x2 &&& (2147483647 : Int32)) % (8 : Int32))), .unset, .unset, .unset, .unset] [(.int (own_i2b x3))]))
  refine own_of (fun _ kk => XS.istore X0.here hx rfl (hb hby at_24) rfl (l' := #[.val (.long x0), .second, .val (.int x1), .val (.int x2), .val (.int x3), .val (.long (own_lushr (x0 &&& (9223372036854775807 : Int64)) (x1 &&& (63 : Int32)))), .second, .val (.int ((x2 &&& (2147483647 : Int32)) % (8 : Int32))), .val (.int (own_i2b x3)), .unset, .unset, .unset]) rfl kk) ?_
  show own_Fin _ _ _ _ _ _ _ (T0.setTop (mkF m 26 #[.val (.long x0), .second, .val (.int x1), .val (.int x2), .val (.int x3), .val (.long (own_lushr (x0 &&& (9223372036854775807 : Int64)) (x1 &&& (63 : Int32)))), .second, .val (.int ((x2 &&& (2147483647 : Int32)) % (8 : Int32))), .val (.int (own_i2b x3)), .unset, .unset, .unset] []))
  refine own_of (fun _ kk => XS.bipush X0.here hx rfl (hb hby at_26) kk) ?_
  show own_Fin _ _ _ _ _ _ _ (T0.setTop (mkF m 28 #[.val (.long x0), .second, .val (.int x1), .val (.int x2), .val (.int x3), .val (.long (own_lushr (x0 &&& (9223372036854775807 : Int64)) (x1 &&& (63 : Int32)))), .second, .val (.int ((x2 &&& (2147483647 : Int32)) % (8 : Int32))), .val (.int (own_i2b x3)), .unset, .unset, .unset] [(.int (16 : Int32))]))
  refine own_newP X0 hx hZ (hw _ (List.mem_of_getElem? (i := 2) rfl)) e0 (hb hby at_28) (n := 16) (by decide) (cap := 16) (Nat.le_refl _) (by decide) (by decide) (by decide) ?_
  intro T1 h1 b1 X1 e1 E1 g1 A1
  have Z1 : n0 ≤ h1.size := Nat.le_trans Z0 E1.1
  have ge_b1 : n0 ≤ b1 := by rw [g1]; exact Z0
  replace A1 : own_Arf Z h1 b1 .byte 16 (fun _ => (.int (0 : Int32))) := A1
  show own_Fin _ _ _ _ _ _ _ (T1.setTop (mkF m 30 #[.val (.long x0), .second, .val (.int x1), .val (.int x2), .val (.int x3), .val (.long (own_lushr (x0 &&& (9223372036854775807 : Int64)) (x1 &&& (63 : Int32)))), .second, .val (.int ((x2 &&& (2147483647 : Int32)) % (8 : Int32))), .val (.int (own_i2b x3)), .unset, .unset, .unset] [(.ref b1)]))
  refine own_of (fun _ kk => XS.dup X1.here hx rfl (hb hby at_30) rfl rfl kk) ?_
  show own_Fin _ _ _ _ _ _ _ (T1.setTop (mkF m 31 #[.val (.long x0), .second, .val (.int x1), .val (.int x2), .val (.int x3), .val (.long (own_lushr (x0 &&& (9223372036854775807 : Int64)) (x1 &&& (63 : Int32)))), .second, .val (.int ((x2 &&& (2147483647 : Int32)) % (8 : Int32))), .val (.int (own_i2b x3)), .unset, .unset, .unset] [(.ref b1), (.ref b1)]))
  refine own_of (fun _ kk => XS.iconst X1.here hx rfl (hb hby at_31) kk) ?_
  show own_Fin _ _ _ _ _ _ _ (T1.setTop (mkF m 32 #[.val (.long x0), .second, .val (.int x1), .val (.int x2), .val (.int x3), .val (.long (own_lushr (x0 &&& (9223372036854775807 : Int64)) (x1 &&& (63 : Int32)))), .second, .val (.int ((x2 &&& (2147483647 : Int32)) % (8 : Int32))), .val (.int (own_i2b x3)), .unset, .unset, .unset] [(.int (0 : Int32)), (.ref b1), (.ref b1)]))
  refine own_of (fun _ kk => XS.iload X1.here hx rfl (hb hby at_32) rfl kk) ?_
  show own_Fin _ _ _ _ _ _ _ (T1.setTop (mkF m 34 #[.val (.long x0), .second, .val (.int x1), .val (.int x2), .val (.int x3), .val (.long (own_lushr (x0 &&& (9223372036854775807 : Int64)) (x1 &&& (63 : Int32)))), .second, .val (.int ((x2 &&& (2147483647 : Int32)) % (8 : Int32))), .val (.int (own_i2b x3)), .unset, .unset, .unset] [(.int (own_i2b x3)), (.int (0 : Int32)), (.ref b1), (.ref b1)]))
  refine own_bastore X1 hx hZ e1 A1 N0 ge_b1 (i := 0) (by decide) (by decide) (hb hby at_34) ?_
  intro T2 h2 l2 X2 N2 e2 W2 A2
  replace A2 : own_Arf Z h2 b1 .byte 16 (fun j => if j = 0 then (.int (own_i2b (own_i2b x3))) else (fun _ => (.int (0 : Int32))) j) := A2
  have ZW2 : n0 ≤ h2.size := by rw [Wr.size W2]; exact Z1
  show own_Fin _ _ _ _ _ _ _ (T2.setTop (mkF m 35 #[.val (.long x0), .second, .val (.int x1), .val (.int x2), .val (.int x3), .val (.long (own_lushr (x0 &&& (9223372036854775807 : Int64)) (x1 &&& (63 : Int32)))), .second, .val (.int ((x2 &&& (2147483647 : Int32)) % (8 : Int32))), .val (.int (own_i2b x3)), .unset, .unset, .unset] [(.ref b1)]))
  refine own_of (fun _ kk => XS.dup X2.here hx rfl (hb hby at_35) rfl rfl kk) ?_
  show own_Fin _ _ _ _ _ _ _ (T2.setTop (mkF m 36 #[.val (.long x0), .second, .val (.int x1), .val (.int x2), .val (.int x3), .val (.long (own_lushr (x0 &&& (9223372036854775807 : Int64)) (x1 &&& (63 : Int32)))), .second, .val (.int ((x2 &&& (2147483647 : Int32)) % (8 : Int32))), .val (.int (own_i2b x3)), .unset, .unset, .unset] [(.ref b1), (.ref b1)]))
  refine own_of (fun _ kk => XS.iconst X2.here hx rfl (hb hby at_36) kk) ?_
  show own_Fin _ _ _ _ _ _ _ (T2.setTop (mkF m 37 #[.val (.long x0), .second, .val (.int x1), .val (.int x2), .val (.int x3), .val (.long (own_lushr (x0 &&& (9223372036854775807 : Int64)) (x1 &&& (63 : Int32)))), .second, .val (.int ((x2 &&& (2147483647 : Int32)) % (8 : Int32))), .val (.int (own_i2b x3)), .unset, .unset, .unset] [(.int (1 : Int32)), (.ref b1), (.ref b1)]))
  refine own_of (fun _ kk => XS.iload X2.here hx rfl (hb hby at_37) rfl kk) ?_
  show own_Fin _ _ _ _ _ _ _ (T2.setTop (mkF m 39 #[.val (.long x0), .second, .val (.int x1), .val (.int x2), .val (.int x3), .val (.long (own_lushr (x0 &&& (9223372036854775807 : Int64)) (x1 &&& (63 : Int32)))), .second, .val (.int ((x2 &&& (2147483647 : Int32)) % (8 : Int32))), .val (.int (own_i2b x3)), .unset, .unset, .unset] [(.int (own_i2b x3)), (.int (1 : Int32)), (.ref b1), (.ref b1)]))
  refine own_bastore X2 hx hZ e2 A2 N2 ge_b1 (i := 1) (by decide) (by decide) (hb hby at_39) ?_
  intro T3 h3 l3 X3 N3 e3 W3 A3
  replace A3 : own_Arf Z h3 b1 .byte 16 (fun j => if j = 1 then (.int (own_i2b (own_i2b x3))) else (fun j => if j = 0 then (.int (own_i2b (own_i2b x3))) else (fun _ => (.int (0 : Int32))) j) j) := A3
  have ZW3 : n0 ≤ h3.size := by rw [Wr.size W3]; exact ZW2
  show own_Fin _ _ _ _ _ _ _ (T3.setTop (mkF m 40 #[.val (.long x0), .second, .val (.int x1), .val (.int x2), .val (.int x3), .val (.long (own_lushr (x0 &&& (9223372036854775807 : Int64)) (x1 &&& (63 : Int32)))), .second, .val (.int ((x2 &&& (2147483647 : Int32)) % (8 : Int32))), .val (.int (own_i2b x3)), .unset, .unset, .unset] [(.ref b1)]))
  refine own_of (fun _ kk => XS.dup X3.here hx rfl (hb hby at_40) rfl rfl kk) ?_
  show own_Fin _ _ _ _ _ _ _ (T3.setTop (mkF m 41 #[.val (.long x0), .second, .val (.int x1), .val (.int x2), .val (.int x3), .val (.long (own_lushr (x0 &&& (9223372036854775807 : Int64)) (x1 &&& (63 : Int32)))), .second, .val (.int ((x2 &&& (2147483647 : Int32)) % (8 : Int32))), .val (.int (own_i2b x3)), .unset, .unset, .unset] [(.ref b1), (.ref b1)]))
  refine own_of (fun _ kk => XS.iconst X3.here hx rfl (hb hby at_41) kk) ?_
  show own_Fin _ _ _ _ _ _ _ (T3.setTop (mkF m 42 #[.val (.long x0), .second, .val (.int x1), .val (.int x2), .val (.int x3), .val (.long (own_lushr (x0 &&& (9223372036854775807 : Int64)) (x1 &&& (63 : Int32)))), .second, .val (.int ((x2 &&& (2147483647 : Int32)) % (8 : Int32))), .val (.int (own_i2b x3)), .unset, .unset, .unset] [(.int (2 : Int32)), (.ref b1), (.ref b1)]))
  refine own_of (fun _ kk => XS.iload X3.here hx rfl (hb hby at_42) rfl kk) ?_
  show own_Fin _ _ _ _ _ _ _ (T3.setTop (mkF m 44 #[.val (.long x0), .second, .val (.int x1), .val (.int x2), .val (.int x3), .val (.long (own_lushr (x0 &&& (9223372036854775807 : Int64)) (x1 &&& (63 : Int32)))), .second, .val (.int ((x2 &&& (2147483647 : Int32)) % (8 : Int32))), .val (.int (own_i2b x3)), .unset, .unset, .unset] [(.int (own_i2b x3)), (.int (2 : Int32)), (.ref b1), (.ref b1)]))
  refine own_bastore X3 hx hZ e3 A3 N3 ge_b1 (i := 2) (by decide) (by decide) (hb hby at_44) ?_
  intro T4 h4 l4 X4 N4 e4 W4 A4
  replace A4 : own_Arf Z h4 b1 .byte 16 (fun j => if j = 2 then (.int (own_i2b (own_i2b x3))) else (fun j => if j = 1 then (.int (own_i2b (own_i2b x3))) else (fun j => if j = 0 then (.int (own_i2b (own_i2b x3))) else (fun _ => (.int (0 : Int32))) j) j) j) := A4
  have ZW4 : n0 ≤ h4.size := by rw [Wr.size W4]; exact ZW3
  show own_Fin _ _ _ _ _ _ _ (T4.setTop (mkF m 45 #[.val (.long x0), .second, .val (.int x1), .val (.int x2), .val (.int x3), .val (.long (own_lushr (x0 &&& (9223372036854775807 : Int64)) (x1 &&& (63 : Int32)))), .second, .val (.int ((x2 &&& (2147483647 : Int32)) % (8 : Int32))), .val (.int (own_i2b x3)), .unset, .unset, .unset] [(.ref b1)]))
  refine own_of (fun _ kk => XS.dup X4.here hx rfl (hb hby at_45) rfl rfl kk) ?_
  show own_Fin _ _ _ _ _ _ _ (T4.setTop (mkF m 46 #[.val (.long x0), .second, .val (.int x1), .val (.int x2), .val (.int x3), .val (.long (own_lushr (x0 &&& (9223372036854775807 : Int64)) (x1 &&& (63 : Int32)))), .second, .val (.int ((x2 &&& (2147483647 : Int32)) % (8 : Int32))), .val (.int (own_i2b x3)), .unset, .unset, .unset] [(.ref b1), (.ref b1)]))
  refine own_of (fun _ kk => XS.iconst X4.here hx rfl (hb hby at_46) kk) ?_
  show own_Fin _ _ _ _ _ _ _ (T4.setTop (mkF m 47 #[.val (.long x0), .second, .val (.int x1), .val (.int x2), .val (.int x3), .val (.long (own_lushr (x0 &&& (9223372036854775807 : Int64)) (x1 &&& (63 : Int32)))), .second, .val (.int ((x2 &&& (2147483647 : Int32)) % (8 : Int32))), .val (.int (own_i2b x3)), .unset, .unset, .unset] [(.int (3 : Int32)), (.ref b1), (.ref b1)]))
  refine own_of (fun _ kk => XS.iload X4.here hx rfl (hb hby at_47) rfl kk) ?_
  show own_Fin _ _ _ _ _ _ _ (T4.setTop (mkF m 49 #[.val (.long x0), .second, .val (.int x1), .val (.int x2), .val (.int x3), .val (.long (own_lushr (x0 &&& (9223372036854775807 : Int64)) (x1 &&& (63 : Int32)))), .second, .val (.int ((x2 &&& (2147483647 : Int32)) % (8 : Int32))), .val (.int (own_i2b x3)), .unset, .unset, .unset] [(.int (own_i2b x3)), (.int (3 : Int32)), (.ref b1), (.ref b1)]))
  refine own_bastore X4 hx hZ e4 A4 N4 ge_b1 (i := 3) (by decide) (by decide) (hb hby at_49) ?_
  intro T5 h5 l5 X5 N5 e5 W5 A5
  replace A5 : own_Arf Z h5 b1 .byte 16 (fun j => if j = 3 then (.int (own_i2b (own_i2b x3))) else (fun j => if j = 2 then (.int (own_i2b (own_i2b x3))) else (fun j => if j = 1 then (.int (own_i2b (own_i2b x3))) else (fun j => if j = 0 then (.int (own_i2b (own_i2b x3))) else (fun _ => (.int (0 : Int32))) j) j) j) j) := A5
  have ZW5 : n0 ≤ h5.size := by rw [Wr.size W5]; exact ZW4
  show own_Fin _ _ _ _ _ _ _ (T5.setTop (mkF m 50 #[.val (.long x0), .second, .val (.int x1), .val (.int x2), .val (.int x3), .val (.long (own_lushr (x0 &&& (9223372036854775807 : Int64)) (x1 &&& (63 : Int32)))), .second, .val (.int ((x2 &&& (2147483647 : Int32)) % (8 : Int32))), .val (.int (own_i2b x3)), .unset, .unset, .unset] [(.ref b1)]))
  refine own_of (fun _ kk => XS.dup X5.here hx rfl (hb hby at_50) rfl rfl kk) ?_
  show own_Fin _ _ _ _ _ _ _ (T5.setTop (mkF m 51 #[.val (.long x0), .second, .val (.int x1), .val (.int x2), .val (.int x3), .val (.long (own_lushr (x0 &&& (9223372036854775807 : Int64)) (x1 &&& (63 : Int32)))), .second, .val (.int ((x2 &&& (2147483647 : Int32)) % (8 : Int32))), .val (.int (own_i2b x3)), .unset, .unset, .unset] [(.ref b1), (.ref b1)]))
  refine own_of (fun _ kk => XS.iconst X5.here hx rfl (hb hby at_51) kk) ?_
  show own_Fin _ _ _ _ _ _ _ (T5.setTop (mkF m 52 #[.val (.long x0), .second, .val (.int x1), .val (.int x2), .val (.int x3), .val (.long (own_lushr (x0 &&& (9223372036854775807 : Int64)) (x1 &&& (63 : Int32)))), .second, .val (.int ((x2 &&& (2147483647 : Int32)) % (8 : Int32))), .val (.int (own_i2b x3)), .unset, .unset, .unset] [(.int (4 : Int32)), (.ref b1), (.ref b1)]))
  refine own_of (fun _ kk => XS.iload X5.here hx rfl (hb hby at_52) rfl kk) ?_
  show own_Fin _ _ _ _ _ _ _ (T5.setTop (mkF m 54 #[.val (.long x0), .second, .val (.int x1), .val (.int x2), .val (.int x3), .val (.long (own_lushr (x0 &&& (9223372036854775807 : Int64)) (x1 &&& (63 : Int32)))), .second, .val (.int ((x2 &&& (2147483647 : Int32)) % (8 : Int32))), .val (.int (own_i2b x3)), .unset, .unset, .unset] [(.int (own_i2b x3)), (.int (4 : Int32)), (.ref b1), (.ref b1)]))
  refine own_bastore X5 hx hZ e5 A5 N5 ge_b1 (i := 4) (by decide) (by decide) (hb hby at_54) ?_
  intro T6 h6 l6 X6 N6 e6 W6 A6
  replace A6 : own_Arf Z h6 b1 .byte 16 (fun j => if j = 4 then (.int (own_i2b (own_i2b x3))) else (fun j => if j = 3 then (.int (own_i2b (own_i2b x3))) else (fun j => if j = 2 then (.int (own_i2b (own_i2b x3))) else (fun j => if j = 1 then (.int (own_i2b (own_i2b x3))) else (fun j => if j = 0 then (.int (own_i2b (own_i2b x3))) else (fun _ => (.int (0 : Int32))) j) j) j) j) j) := A6
  have ZW6 : n0 ≤ h6.size := by rw [Wr.size W6]; exact ZW5
  show own_Fin _ _ _ _ _ _ _ (T6.setTop (mkF m 55 #[.val (.long x0), .second, .val (.int x1), .val (.int x2), .val (.int x3), .val (.long (own_lushr (x0 &&& (9223372036854775807 : Int64)) (x1 &&& (63 : Int32)))), .second, .val (.int ((x2 &&& (2147483647 : Int32)) % (8 : Int32))), .val (.int (own_i2b x3)), .unset, .unset, .unset] [(.ref b1)]))
  refine own_of (fun _ kk => XS.dup X6.here hx rfl (hb hby at_55) rfl rfl kk) ?_
  show own_Fin _ _ _ _ _ _ _ (T6.setTop (mkF m 56 #[.val (.long x0), .second, .val (.int x1), .val (.int x2), .val (.int x3), .val (.long (own_lushr (x0 &&& (9223372036854775807 : Int64)) (x1 &&& (63 : Int32)))), .second, .val (.int ((x2 &&& (2147483647 : Int32)) % (8 : Int32))), .val (.int (own_i2b x3)), .unset, .unset, .unset] [(.ref b1), (.ref b1)]))
  refine own_of (fun _ kk => XS.iconst X6.here hx rfl (hb hby at_56) kk) ?_
  show own_Fin _ _ _ _ _ _ _ (T6.setTop (mkF m 57 #[.val (.long x0), .second, .val (.int x1), .val (.int x2), .val (.int x3), .val (.long (own_lushr (x0 &&& (9223372036854775807 : Int64)) (x1 &&& (63 : Int32)))), .second, .val (.int ((x2 &&& (2147483647 : Int32)) % (8 : Int32))), .val (.int (own_i2b x3)), .unset, .unset, .unset] [(.int (5 : Int32)), (.ref b1), (.ref b1)]))
  refine own_of (fun _ kk => XS.iload X6.here hx rfl (hb hby at_57) rfl kk) ?_
  show own_Fin _ _ _ _ _ _ _ (T6.setTop (mkF m 59 #[.val (.long x0), .second, .val (.int x1), .val (.int x2), .val (.int x3), .val (.long (own_lushr (x0 &&& (9223372036854775807 : Int64)) (x1 &&& (63 : Int32)))), .second, .val (.int ((x2 &&& (2147483647 : Int32)) % (8 : Int32))), .val (.int (own_i2b x3)), .unset, .unset, .unset] [(.int (own_i2b x3)), (.int (5 : Int32)), (.ref b1), (.ref b1)]))
  refine own_bastore X6 hx hZ e6 A6 N6 ge_b1 (i := 5) (by decide) (by decide) (hb hby at_59) ?_
  intro T7 h7 l7 X7 N7 e7 W7 A7
  replace A7 : own_Arf Z h7 b1 .byte 16 (fun j => if j = 5 then (.int (own_i2b (own_i2b x3))) else (fun j => if j = 4 then (.int (own_i2b (own_i2b x3))) else (fun j => if j = 3 then (.int (own_i2b (own_i2b x3))) else (fun j => if j = 2 then (.int (own_i2b (own_i2b x3))) else (fun j => if j = 1 then (.int (own_i2b (own_i2b x3))) else (fun j => if j = 0 then (.int (own_i2b (own_i2b x3))) else (fun _ => (.int (0 : Int32))) j) j) j) j) j) j) := A7
  have ZW7 : n0 ≤ h7.size := by rw [Wr.size W7]; exact ZW6
  show own_Fin _ _ _ _ _ _ _ (T7.setTop (mkF m 60 #[.val (.long x0), .second, .val (.int x1), .val (.int x2), .val (.int x3), .val (.long (own_lushr (x0 &&& (9223372036854775807 : Int64)) (x1 &&& (63 : Int32)))), .second, .val (.int ((x2 &&& (2147483647 : Int32)) % (8 : Int32))), .val (.int (own_i2b x3)), .unset, .unset, .unset] [(.ref b1)]))
  refine own_of (fun _ kk => XS.dup X7.here hx rfl (hb hby at_60) rfl rfl kk) ?_
  show own_Fin _ _ _ _ _ _ _ (T7.setTop (mkF m 61 #[.val (.long x0), .second, .val (.int x1), .val (.int x2), .val (.int x3), .val (.long (own_lushr (x0 &&& (9223372036854775807 : Int64)) (x1 &&& (63 : Int32)))), .second, .val (.int ((x2 &&& (2147483647 : Int32)) % (8 : Int32))), .val (.int (own_i2b x3)), .unset, .unset, .unset] [(.ref b1), (.ref b1)]))
  refine own_of (fun _ kk => XS.bipush X7.here hx rfl (hb hby at_61) kk) ?_
  show own_Fin _ _ _ _ _ _ _ (T7.setTop (mkF m 63 #[.val (.long x0), .second, .val (.int x1), .val (.int x2), .val (.int x3), .val (.long (own_lushr (x0 &&& (9223372036854775807 : Int64)) (x1 &&& (63 : Int32)))), .second, .val (.int ((x2 &&& (2147483647 : Int32)) % (8 : Int32))), .val (.int (own_i2b x3)), .unset, .unset, .unset] [(.int (6 : Int32)), (.ref b1), (.ref b1)]))
  refine own_of (fun _ kk => XS.iload X7.here hx rfl (hb hby at_63) rfl kk) ?_
  show own_Fin _ _ _ _ _ _ _ (T7.setTop (mkF m 65 #[.val (.long x0), .second, .val (.int x1), .val (.int x2), .val (.int x3), .val (.long (own_lushr (x0 &&& (9223372036854775807 : Int64)) (x1 &&& (63 : Int32)))), .second, .val (.int ((x2 &&& (2147483647 : Int32)) % (8 : Int32))), .val (.int (own_i2b x3)), .unset, .unset, .unset] [(.int (own_i2b x3)), (.int (6 : Int32)), (.ref b1), (.ref b1)]))
  refine own_bastore X7 hx hZ e7 A7 N7 ge_b1 (i := 6) (by decide) (by decide) (hb hby at_65) ?_
  intro T8 h8 l8 X8 N8 e8 W8 A8
  replace A8 : own_Arf Z h8 b1 .byte 16 (fun j => if j = 6 then (.int (own_i2b (own_i2b x3))) else (fun j => if j = 5 then (.int (own_i2b (own_i2b x3))) else (fun j => if j = 4 then (.int (own_i2b (own_i2b x3))) else (fun j => if j = 3 then (.int (own_i2b (own_i2b x3))) else (fun j => if j = 2 then (.int (own_i2b (own_i2b x3))) else (fun j => if j = 1 then (.int (own_i2b (own_i2b x3))) else (fun j => if j = 0 then (.int (own_i2b (own_i2b x3))) else (fun _ => (.int (0 : Int32))) j) j) j) j) j) j) j) := A8
  have ZW8 : n0 ≤ h8.size := by rw [Wr.size W8]; exact ZW7
  show own_Fin _ _ _ _ _ _ _ (T8.setTop (mkF m 66 #[.val (.long x0), .second, .val (.int x1), .val (.int x2), .val (.int x3), .val (.long (own_lushr (x0 &&& (9223372036854775807 : Int64)) (x1 &&& (63 : Int32)))), .second, .val (.int ((x2 &&& (2147483647 : Int32)) % (8 : Int32))), .val (.int (own_i2b x3)), .unset, .unset, .unset] [(.ref b1)]))
  refine own_of (fun _ kk => XS.dup X8.here hx rfl (hb hby at_66) rfl rfl kk) ?_
  show own_Fin _ _ _ _ _ _ _ (T8.setTop (mkF m 67 #[.val (.long x0), .second, .val (.int x1), .val (.int x2), .val (.int x3), .val (.long (own_lushr (x0 &&& (9223372036854775807 : Int64)) (x1 &&& (63 : Int32)))), .second, .val (.int ((x2 &&& (2147483647 : Int32)) % (8 : Int32))), .val (.int (own_i2b x3)), .unset, .unset, .unset] [(.ref b1), (.ref b1)]))
  refine own_of (fun _ kk => XS.bipush X8.here hx rfl (hb hby at_67) kk) ?_
  show own_Fin _ _ _ _ _ _ _ (T8.setTop (mkF m 69 #[.val (.long x0), .second, .val (.int x1), .val (.int x2), .val (.int x3), .val (.long (own_lushr (x0 &&& (9223372036854775807 : Int64)) (x1 &&& (63 : Int32)))), .second, .val (.int ((x2 &&& (2147483647 : Int32)) % (8 : Int32))), .val (.int (own_i2b x3)), .unset, .unset, .unset] [(.int (7 : Int32)), (.ref b1), (.ref b1)]))
  refine own_of (fun _ kk => XS.iload X8.here hx rfl (hb hby at_69) rfl kk) ?_
  show own_Fin _ _ _ _ _ _ _ (T8.setTop (mkF m 71 #[.val (.long x0), .second, .val (.int x1), .val (.int x2), .val (.int x3), .val (.long (own_lushr (x0 &&& (9223372036854775807 : Int64)) (x1 &&& (63 : Int32)))), .second, .val (.int ((x2 &&& (2147483647 : Int32)) % (8 : Int32))), .val (.int (own_i2b x3)), .unset, .unset, .unset] [(.int (own_i2b x3)), (.int (7 : Int32)), (.ref b1), (.ref b1)]))
  refine own_bastore X8 hx hZ e8 A8 N8 ge_b1 (i := 7) (by decide) (by decide) (hb hby at_71) ?_
  intro T9 h9 l9 X9 N9 e9 W9 A9
  replace A9 : own_Arf Z h9 b1 .byte 16 (fun j => if j = 7 then (.int (own_i2b (own_i2b x3))) else (fun j => if j = 6 then (.int (own_i2b (own_i2b x3))) else (fun j => if j = 5 then (.int (own_i2b (own_i2b x3))) else (fun j => if j = 4 then (.int (own_i2b (own_i2b x3))) else (fun j => if j = 3 then (.int (own_i2b (own_i2b x3))) else (fun j => if j = 2 then (.int (own_i2b (own_i2b x3))) else (fun j => if j = 1 then (.int (own_i2b (own_i2b x3))) else (fun j => if j = 0 then (.int (own_i2b (own_i2b x3))) else (fun _ => (.int (0 : Int32))) j) j) j) j) j) j) j) j) := A9
  have ZW9 : n0 ≤ h9.size := by rw [Wr.size W9]; exact ZW8
  show own_Fin _ _ _ _ _ _ _ (T9.setTop (mkF m 72 #[.val (.long x0), .second, .val (.int x1), .val (.int x2), .val (.int x3), .val (.long (own_lushr (x0 &&& (9223372036854775807 : Int64)) (x1 &&& (63 : Int32)))), .second, .val (.int ((x2 &&& (2147483647 : Int32)) % (8 : Int32))), .val (.int (own_i2b x3)), .unset, .unset, .unset] [(.ref b1)]))
  refine own_of (fun _ kk => XS.dup X9.here hx rfl (hb hby at_72) rfl rfl kk) ?_
  show own_Fin _ _ _ _ _ _ _ (T9.setTop (mkF m 73 #[.val (.long x0), .second, .val (.int x1), .val (.int x2), .val (.int x3), .val (.long (own_lushr (x0 &&& (9223372036854775807 : Int64)) (x1 &&& (63 : Int32)))), .second, .val (.int ((x2 &&& (2147483647 : Int32)) % (8 : Int32))), .val (.int (own_i2b x3)), .unset, .unset, .unset] [(.ref b1), (.ref b1)]))
  refine own_of (fun _ kk => XS.bipush X9.here hx rfl (hb hby at_73) kk) ?_
  show own_Fin _ _ _ _ _ _ _ (T9.setTop (mkF m 75 #[.val (.long x0), .second, .val (.int x1), .val (.int x2), .val (.int x3), .val (.long (own_lushr (x0 &&& (9223372036854775807 : Int64)) (x1 &&& (63 : Int32)))), .second, .val (.int ((x2 &&& (2147483647 : Int32)) % (8 : Int32))), .val (.int (own_i2b x3)), .unset, .unset, .unset] [(.int (8 : Int32)), (.ref b1), (.ref b1)]))
  refine own_of (fun _ kk => XS.iload X9.here hx rfl (hb hby at_75) rfl kk) ?_
  show own_Fin _ _ _ _ _ _ _ (T9.setTop (mkF m 77 #[.val (.long x0), .second, .val (.int x1), .val (.int x2), .val (.int x3), .val (.long (own_lushr (x0 &&& (9223372036854775807 : Int64)) (x1 &&& (63 : Int32)))), .second, .val (.int ((x2 &&& (2147483647 : Int32)) % (8 : Int32))), .val (.int (own_i2b x3)), .unset, .unset, .unset] [(.int (own_i2b x3)), (.int (8 : Int32)), (.ref b1), (.ref b1)]))
  refine own_bastore X9 hx hZ e9 A9 N9 ge_b1 (i := 8) (by decide) (by decide) (hb hby at_77) ?_
  intro T10 h10 l10 X10 N10 e10 W10 A10
  replace A10 : own_Arf Z h10 b1 .byte 16 (fun j => if j = 8 then (.int (own_i2b (own_i2b x3))) else (fun j => if j = 7 then (.int (own_i2b (own_i2b x3))) else (fun j => if j = 6 then (.int (own_i2b (own_i2b x3))) else (fun j => if j = 5 then (.int (own_i2b (own_i2b x3))) else (fun j => if j = 4 then (.int (own_i2b (own_i2b x3))) else (fun j => if j = 3 then (.int (own_i2b (own_i2b x3))) else (fun j => if j = 2 then (.int (own_i2b (own_i2b x3))) else (fun j => if j = 1 then (.int (own_i2b (own_i2b x3))) else (fun j => if j = 0 then (.int (own_i2b (own_i2b x3))) else (fun _ => (.int (0 : Int32))) j) j) j) j) j) j) j) j) j) := A10
  have ZW10 : n0 ≤ h10.size := by rw [Wr.size W10]; exact ZW9
  show own_Fin _ _ _ _ _ _ _ (T10.setTop (mkF m 78 #[.val (.long x0), .second, .val (.int x1), .val (.int x2), .val (.int x3), .val (.long (own_lushr (x0 &&& (9223372036854775807 : Int64)) (x1 &&& (63 : Int32)))), .second, .val (.int ((x2 &&& (2147483647 : Int32)) % (8 : Int32))), .val (.int (own_i2b x3)), .unset, .unset, .unset] [(.ref b1)]))
  refine own_of (fun _ kk => XS.dup X10.here hx rfl (hb hby at_78) rfl rfl kk) ?_
  show own_Fin _ _ _ _ _ _ _ (T10.setTop (mkF m 79 #[.val (.long x0), .second, .val (.int x1), .val (.int x2), .val (.int x3), .val (.long (own_lushr (x0 &&& (9223372036854775807 : Int64)) (x1 &&& (63 : Int32)))), .second, .val (.int ((x2 &&& (2147483647 : Int32)) % (8 : Int32))), .val (.int (own_i2b x3)), .unset, .unset, .unset] [(.ref b1), (.ref b1)]))
  refine own_of (fun _ kk => XS.bipush X10.here hx rfl (hb hby at_79) kk) ?_
  show own_Fin _ _ _ _ _ _ _ (T10.setTop (mkF m 81 #[.val (.long x0), .second, .val (.int x1), .val (.int x2), .val (.int x3), .val (.long (own_lushr (x0 &&& (9223372036854775807 : Int64)) (x1 &&& (63 : Int32)))), .second, .val (.int ((x2 &&& (2147483647 : Int32)) % (8 : Int32))), .val (.int (own_i2b x3)), .unset, .unset, .unset] [(.int (9 : Int32)), (.ref b1), (.ref b1)]))
  refine own_of (fun _ kk => XS.iload X10.here hx rfl (hb hby at_81) rfl kk) ?_
  show own_Fin _ _ _ _ _ _ _ (T10.setTop (mkF m 83 #[.val (.long x0), .second, .val (.int x1), .val (.int x2), .val (.int x3), .val (.long (own_lushr (x0 &&& (9223372036854775807 : Int64)) (x1 &&& (63 : Int32)))), .second, .val (.int ((x2 &&& (2147483647 : Int32)) % (8 : Int32))), .val (.int (own_i2b x3)), .unset, .unset, .unset] [(.int (own_i2b x3)), (.int (9 : Int32)), (.ref b1), (.ref b1)]))
  refine own_bastore X10 hx hZ e10 A10 N10 ge_b1 (i := 9) (by decide) (by decide) (hb hby at_83) ?_
  intro T11 h11 l11 X11 N11 e11 W11 A11
  replace A11 : own_Arf Z h11 b1 .byte 16 (fun j => if j = 9 then (.int (own_i2b (own_i2b x3))) else (fun j => if j = 8 then (.int (own_i2b (own_i2b x3))) else (fun j => if j = 7 then (.int (own_i2b (own_i2b x3))) else (fun j => if j = 6 then (.int (own_i2b (own_i2b x3))) else (fun j => if j = 5 then (.int (own_i2b (own_i2b x3))) else (fun j => if j = 4 then (.int (own_i2b (own_i2b x3))) else (fun j => if j = 3 then (.int (own_i2b (own_i2b x3))) else (fun j => if j = 2 then (.int (own_i2b (own_i2b x3))) else (fun j => if j = 1 then (.int (own_i2b (own_i2b x3))) else (fun j => if j = 0 then (.int (own_i2b (own_i2b x3))) else (fun _ => (.int (0 : Int32))) j) j) j) j) j) j) j) j) j) j) := A11
  have ZW11 : n0 ≤ h11.size := by rw [Wr.size W11]; exact ZW10
  show own_Fin _ _ _ _ _ _ _ (T11.setTop (mkF m 84 #[.val (.long x0), .second, .val (.int x1), .val (.int x2), .val (.int x3), .val (.long (own_lushr (x0 &&& (9223372036854775807 : Int64)) (x1 &&& (63 : Int32)))), .second, .val (.int ((x2 &&& (2147483647 : Int32)) % (8 : Int32))), .val (.int (own_i2b x3)), .unset, .unset, .unset] [(.ref b1)]))
  refine own_of (fun _ kk => XS.dup X11.here hx rfl (hb hby at_84) rfl rfl kk) ?_
  show own_Fin _ _ _ _ _ _ _ (T11.setTop (mkF m 85 #[.val (.long x0), .second, .val (.int x1), .val (.int x2), .val (.int x3), .val (.long (own_lushr (x0 &&& (9223372036854775807 : Int64)) (x1 &&& (63 : Int32)))), .second, .val (.int ((x2 &&& (2147483647 : Int32)) % (8 : Int32))), .val (.int (own_i2b x3)), .unset, .unset, .unset] [(.ref b1), (.ref b1)]))
  refine own_of (fun _ kk => XS.bipush X11.here hx rfl (hb hby at_85) kk) ?_
  show own_Fin _ _ _ _ _ _ _ (T11.setTop (mkF m 87 #[.val (.long x0), .second, .val (.int x1), .val (.int x2), .val (.int x3), .val (.long (own_lushr (x0 &&& (9223372036854775807 : Int64)) (x1 &&& (63 : Int32)))), .second, .val (.int ((x2 &&& (2147483647 : Int32)) % (8 : Int32))), .val (.int (own_i2b x3)), .unset, .unset, .unset] [(.int (10 : Int32)), (.ref b1), (.ref b1)]))
  refine own_of (fun _ kk => XS.iload X11.here hx rfl (hb hby at_87) rfl kk) ?_
  show own_Fin _ _ _ _ _ _ _ (T11.setTop (mkF m 89 #[.val (.long x0), .second, .val (.int x1), .val (.int x2), .val (.int x3), .val (.long (own_lushr (x0 &&& (9223372036854775807 : Int64)) (x1 &&& (63 : Int32)))), .second, .val (.int ((x2 &&& (2147483647 : Int32)) % (8 : Int32))), .val (.int (own_i2b x3)), .unset, .unset, .unset] [(.int (own_i2b x3)), (.int (10 : Int32)), (.ref b1), (.ref b1)]))
  refine own_bastore X11 hx hZ e11 A11 N11 ge_b1 (i := 10) (by decide) (by decide) (hb hby at_89) ?_
  intro T12 h12 l12 X12 N12 e12 W12 A12
  replace A12 : own_Arf Z h12 b1 .byte 16 (fun j => if j = 10 then (.int (own_i2b (own_i2b x3))) else (fun j => if j = 9 then (.int (own_i2b (own_i2b x3))) else (fun j => if j = 8 then (.int (own_i2b (own_i2b x3))) else (fun j => if j = 7 then (.int (own_i2b (own_i2b x3))) else (fun j => if j = 6 then (.int (own_i2b (own_i2b x3))) else (fun j => if j = 5 then (.int (own_i2b (own_i2b x3))) else (fun j => if j = 4 then (.int (own_i2b (own_i2b x3))) else (fun j => if j = 3 then (.int (own_i2b (own_i2b x3))) else (fun j => if j = 2 then (.int (own_i2b (own_i2b x3))) else (fun j => if j = 1 then (.int (own_i2b (own_i2b x3))) else (fun j => if j = 0 then (.int (own_i2b (own_i2b x3))) else (fun _ => (.int (0 : Int32))) j) j) j) j) j) j) j) j) j) j) j) := A12
  have ZW12 : n0 ≤ h12.size := by rw [Wr.size W12]; exact ZW11
  show own_Fin _ _ _ _ _ _ _ (T12.setTop (mkF m 90 #[.val (.long x0), .second, .val (.int x1), .val (.int x2), .val (.int x3), .val (.long (own_lushr (x0 &&& (9223372036854775807 : Int64)) (x1 &&& (63 : Int32)))), .second, .val (.int ((x2 &&& (2147483647 : Int32)) % (8 : Int32))), .val (.int (own_i2b x3)), .unset, .unset, .unset] [(.ref b1)]))
  refine own_of (fun _ kk => XS.dup X12.here hx rfl (hb hby at_90) rfl rfl kk) ?_
  show own_Fin _ _ _ _ _ _ _ (T12.setTop (mkF m 91 #[.val (.long x0), .second, .val (.int x1), .val (.int x2), .val (.int x3), .val (.long (own_lushr (x0 &&& (9223372036854775807 : Int64)) (x1 &&& (63 : Int32)))), .second, .val (.int ((x2 &&& (2147483647 : Int32)) % (8 : Int32))), .val (.int (own_i2b x3)), .unset, .unset, .unset] [(.ref b1), (.ref b1)]))
  refine own_of (fun _ kk => XS.bipush X12.here hx rfl (hb hby at_91) kk) ?_
  show own_Fin _ _ _ _ _ _ _ (T12.setTop (mkF m 93 #[.val (.long x0), .second, .val (.int x1), .val (.int x2), .val (.int x3), .val (.long (own_lushr (x0 &&& (9223372036854775807 : Int64)) (x1 &&& (63 : Int32)))), .second, .val (.int ((x2 &&& (2147483647 : Int32)) % (8 : Int32))), .val (.int (own_i2b x3)), .unset, .unset, .unset] [(.int (11 : Int32)), (.ref b1), (.ref b1)]))
  refine own_of (fun _ kk => XS.iload X12.here hx rfl (hb hby at_93) rfl kk) ?_
  show own_Fin _ _ _ _ _ _ _ (T12.setTop (mkF m 95 #[.val (.long x0), .second, .val (.int x1), .val (.int x2), .val (.int x3), .val (.long (own_lushr (x0 &&& (9223372036854775807 : Int64)) (x1 &&& (63 : Int32)))), .second, .val (.int ((x2 &&& (2147483647 : Int32)) % (8 : Int32))), .val (.int (own_i2b x3)), .unset, .unset, .unset] [(.int (own_i2b x3)), (.int (11 : Int32)), (.ref b1), (.ref b1)]))
  refine own_bastore X12 hx hZ e12 A12 N12 ge_b1 (i := 11) (by decide) (by decide) (hb hby at_95) ?_
  intro T13 h13 l13 X13 N13 e13 W13 A13
  replace A13 : own_Arf Z h13 b1 .byte 16 (fun j => if j = 11 then (.int (own_i2b (own_i2b x3))) else (fun j => if j = 10 then (.int (own_i2b (own_i2b x3))) else (fun j => if j = 9 then (.int (own_i2b (own_i2b x3))) else (fun j => if j = 8 then (.int (own_i2b (own_i2b x3))) else (fun j => if j = 7 then (.int (own_i2b (own_i2b x3))) else (fun j => if j = 6 then (.int (own_i2b (own_i2b x3))) else (fun j => if j = 5 then (.int (own_i2b (own_i2b x3))) else (fun j => if j = 4 then (.int (own_i2b (own_i2b x3))) else (fun j => if j = 3 then (.int (own_i2b (own_i2b x3))) else (fun j => if j = 2 then (.int (own_i2b (own_i2b x3))) else (fun j => if j = 1 then (.int (own_i2b (own_i2b x3))) else (fun j => if j = 0 then (.int (own_i2b (own_i2b x3))) else (fun _ => (.int (0 : Int32))) j) j) j) j) j) j) j) j) j) j) j) j) := A13
  have ZW13 : n0 ≤ h13.size := by rw [Wr.size W13]; exact ZW12
  show own_Fin _ _ _ _ _ _ _ (T13.setTop (mkF m 96 #[.val (.long x0), .second, .val (.int x1), .val (.int x2), .val (.int x3), .val (.long (own_lushr (x0 &&& (9223372036854775807 : Int64)) (x1 &&& (63 : Int32)))), .second, .val (.int ((x2 &&& (2147483647 : Int32)) % (8 : Int32))), .val (.int (own_i2b x3)), .unset, .unset, .unset] [(.ref b1)]))
  refine own_of (fun _ kk => XS.dup X13.here hx rfl (hb hby at_96) rfl rfl kk) ?_
  show own_Fin _ _ _ _ _ _ _ (T13.setTop (mkF m 97 #[.val (.long x0), .second, .val (.int x1), .val (.int x2), .val (.int x3), .val (.long (own_lushr (x0 &&& (9223372036854775807 : Int64)) (x1 &&& (63 : Int32)))), .second, .val (.int ((x2 &&& (2147483647 : Int32)) % (8 : Int32))), .val (.int (own_i2b x3)), .unset, .unset, .unset] [(.ref b1), (.ref b1)]))
  refine own_of (fun _ kk => XS.bipush X13.here hx rfl (hb hby at_97) kk) ?_
  show own_Fin _ _ _ _ _ _ _ (T13.setTop (mkF m 99 #[.val (.long x0), .second, .val (.int x1), .val (.int x2), .val (.int x3), .val (.long (own_lushr (x0 &&& (9223372036854775807 : Int64)) (x1 &&& (63 : Int32)))), .second, .val (.int ((x2 &&& (2147483647 : Int32)) % (8 : Int32))), .val (.int (own_i2b x3)), .unset, .unset, .unset] [(.int (12 : Int32)), (.ref b1), (.ref b1)]))
  refine own_of (fun _ kk => XS.iload X13.here hx rfl (hb hby at_99) rfl kk) ?_
  show own_Fin _ _ _ _ _ _ _ (T13.setTop (mkF m 101 #[.val (.long x0), .second, .val (.int x1), .val (.int x2), .val (.int x3), .val (.long (own_lushr (x0 &&& (9223372036854775807 : Int64)) (x1 &&& (63 : Int32)))), .second, .val (.int ((x2 &&& (2147483647 : Int32)) % (8 : Int32))), .val (.int (own_i2b x3)), .unset, .unset, .unset] [(.int (own_i2b x3)), (.int (12 : Int32)), (.ref b1), (.ref b1)]))
  refine own_bastore X13 hx hZ e13 A13 N13 ge_b1 (i := 12) (by decide) (by decide) (hb hby at_101) ?_
  intro T14 h14 l14 X14 N14 e14 W14 A14
  replace A14 : own_Arf Z h14 b1 .byte 16 (fun j => if j = 12 then (.int (own_i2b (own_i2b x3))) else (fun j => if j = 11 then (.int (own_i2b (own_i2b x3))) else (fun j => if j = 10 then (.int (own_i2b (own_i2b x3))) else (fun j => if j = 9 then (.int (own_i2b (own_i2b x3))) else (fun j => if j = 8 then (.int (own_i2b (own_i2b x3))) else (fun j => if j = 7 then (.int (own_i2b (own_i2b x3))) else (fun j => if j = 6 then (.int (own_i2b (own_i2b x3))) else (fun j => if j = 5 then (.int (own_i2b (own_i2b x3))) else (fun j => if j = 4 then (.int (own_i2b (own_i2b x3))) else (fun j => if j = 3 then (.int (own_i2b (own_i2b x3))) else (fun j => if j = 2 then (.int (own_i2b (own_i2b x3))) else (fun j => if j = 1 then (.int (own_i2b (own_i2b x3))) else (fun j => if j = 0 then (.int (own_i2b (own_i2b x3))) else (fun _ => (.int (0 : Int32))) j) j) j) j) j) j) j) j) j) j) j) j) j) := A14
  have ZW14 : n0 ≤ h14.size := by rw [Wr.size W14]; exact ZW13
  show own_Fin _ _ _ _ _ _ _ (T14.setTop (mkF m 102 #[.val (.long x0), .second, .val (.int x1), .val (.int x2), .val (.int x3), .val (.long (own_lushr (x0 &&& (9223372036854775807 : Int64)) (x1 &&& (63 : Int32)))), .second, .val (.int ((x2 &&& (2147483647 : Int32)) % (8 : Int32))), .val (.int (own_i2b x3)), .unset, .unset, .unset] [(.ref b1)]))
  refine own_of (fun _ kk => XS.dup X14.here hx rfl (hb hby at_102) rfl rfl kk) ?_
  show own_Fin _ _ _ _ _ _ _ (T14.setTop (mkF m 103 #[.val (.long x0), .second, .val (.int x1), .val (.int x2), .val (.int x3), .val (.long (own_lushr (x0 &&& (9223372036854775807 : Int64)) (x1 &&& (63 : Int32)))), .second, .val (.int ((x2 &&& (2147483647 : Int32)) % (8 : Int32))), .val (.int (own_i2b x3)), .unset, .unset, .unset] [(.ref b1), (.ref b1)]))
  refine own_of (fun _ kk => XS.bipush X14.here hx rfl (hb hby at_103) kk) ?_
  show own_Fin _ _ _ _ _ _ _ (T14.setTop (mkF m 105 #[.val (.long x0), .second, .val (.int x1), .val (.int x2), .val (.int x3), .val (.long (own_lushr (x0 &&& (9223372036854775807 : Int64)) (x1 &&& (63 : Int32)))), .second, .val (.int ((x2 &&& (2147483647 : Int32)) % (8 : Int32))), .val (.int (own_i2b x3)), .unset, .unset, .unset] [(.int (13 : Int32)), (.ref b1), (.ref b1)]))
  refine own_of (fun _ kk => XS.iload X14.here hx rfl (hb hby at_105) rfl kk) ?_
  show own_Fin _ _ _ _ _ _ _ (T14.setTop (mkF m 107 #[.val (.long x0), .second, .val (.int x1), .val (.int x2), .val (.int x3), .val (.long (own_lushr (x0 &&& (9223372036854775807 : Int64)) (x1 &&& (63 : Int32)))), .second, .val (.int ((x2 &&& (2147483647 : Int32)) % (8 : Int32))), .val (.int (own_i2b x3)), .unset, .unset, .unset] [(.int (own_i2b x3)), (.int (13 : Int32)), (.ref b1), (.ref b1)]))
  refine own_bastore X14 hx hZ e14 A14 N14 ge_b1 (i := 13) (by decide) (by decide) (hb hby at_107) ?_
  intro T15 h15 l15 X15 N15 e15 W15 A15
  replace A15 : own_Arf Z h15 b1 .byte 16 (fun j => if j = 13 then (.int (own_i2b (own_i2b x3))) else (fun j => if j = 12 then (.int (own_i2b (own_i2b x3))) else (fun j => if j = 11 then (.int (own_i2b (own_i2b x3))) else (fun j => if j = 10 then (.int (own_i2b (own_i2b x3))) else (fun j => if j = 9 then (.int (own_i2b (own_i2b x3))) else (fun j => if j = 8 then (.int (own_i2b (own_i2b x3))) else (fun j => if j = 7 then (.int (own_i2b (own_i2b x3))) else (fun j => if j = 6 then (.int (own_i2b (own_i2b x3))) else (fun j => if j = 5 then (.int (own_i2b (own_i2b x3))) else (fun j => if j = 4 then (.int (own_i2b (own_i2b x3))) else (fun j => if j = 3 then (.int (own_i2b (own_i2b x3))) else (fun j => if j = 2 then (.int (own_i2b (own_i2b x3))) else (fun j => if j = 1 then (.int (own_i2b (own_i2b x3))) else (fun j => if j = 0 then (.int (own_i2b (own_i2b x3))) else (fun _ => (.int (0 : Int32))) j) j) j) j) j) j) j) j) j) j) j) j) j) j) := A15
  have ZW15 : n0 ≤ h15.size := by rw [Wr.size W15]; exact ZW14
  show own_Fin _ _ _ _ _ _ _ (T15.setTop (mkF m 108 #[.val (.long x0), .second, .val (.int x1), .val (.int x2), .val (.int x3), .val (.long (own_lushr (x0 &&& (9223372036854775807 : Int64)) (x1 &&& (63 : Int32)))), .second, .val (.int ((x2 &&& (2147483647 : Int32)) % (8 : Int32))), .val (.int (own_i2b x3)), .unset, .unset, .unset] [(.ref b1)]))
  refine own_of (fun _ kk => XS.dup X15.here hx rfl (hb hby at_108) rfl rfl kk) ?_
  show own_Fin _ _ _ _ _ _ _ (T15.setTop (mkF m 109 #[.val (.long x0), .second, .val (.int x1), .val (.int x2), .val (.int x3), .val (.long (own_lushr (x0 &&& (9223372036854775807 : Int64)) (x1 &&& (63 : Int32)))), .second, .val (.int ((x2 &&& (2147483647 : Int32)) % (8 : Int32))), .val (.int (own_i2b x3)), .unset, .unset, .unset] [(.ref b1), (.ref b1)]))
  refine own_of (fun _ kk => XS.bipush X15.here hx rfl (hb hby at_109) kk) ?_
  show own_Fin _ _ _ _ _ _ _ (T15.setTop (mkF m 111 #[.val (.long x0), .second, .val (.int x1), .val (.int x2), .val (.int x3), .val (.long (own_lushr (x0 &&& (9223372036854775807 : Int64)) (x1 &&& (63 : Int32)))), .second, .val (.int ((x2 &&& (2147483647 : Int32)) % (8 : Int32))), .val (.int (own_i2b x3)), .unset, .unset, .unset] [(.int (14 : Int32)), (.ref b1), (.ref b1)]))
  refine own_of (fun _ kk => XS.iload X15.here hx rfl (hb hby at_111) rfl kk) ?_
  show own_Fin _ _ _ _ _ _ _ (T15.setTop (mkF m 113 #[.val (.long x0), .second, .val (.int x1), .val (.int x2), .val (.int x3), .val (.long (own_lushr (x0 &&& (9223372036854775807 : Int64)) (x1 &&& (63 : Int32)))), .second, .val (.int ((x2 &&& (2147483647 : Int32)) % (8 : Int32))), .val (.int (own_i2b x3)), .unset, .unset, .unset] [(.int (own_i2b x3)), (.int (14 : Int32)), (.ref b1), (.ref b1)]))
  refine own_bastore X15 hx hZ e15 A15 N15 ge_b1 (i := 14) (by decide) (by decide) (hb hby at_113) ?_
  intro T16 h16 l16 X16 N16 e16 W16 A16
  replace A16 : own_Arf Z h16 b1 .byte 16 (fun j => if j = 14 then (.int (own_i2b (own_i2b x3))) else (fun j => if j = 13 then (.int (own_i2b (own_i2b x3))) else (fun j => if j = 12 then (.int (own_i2b (own_i2b x3))) else (fun j => if j = 11 then (.int (own_i2b (own_i2b x3))) else (fun j => if j = 10 then (.int (own_i2b (own_i2b x3))) else (fun j => if j = 9 then (.int (own_i2b (own_i2b x3))) else (fun j => if j = 8 then (.int (own_i2b (own_i2b x3))) else (fun j => if j = 7 then (.int (own_i2b (own_i2b x3))) else (fun j => if j = 6 then (.int (own_i2b (own_i2b x3))) else (fun j => if j = 5 then (.int (own_i2b (own_i2b x3))) else (fun j => if j = 4 then (.int (own_i2b (own_i2b x3))) else (fun j => if j = 3 then (.int (own_i2b (own_i2b x3))) else (fun j => if j = 2 then (.int (own_i2b (own_i2b x3))) else (fun j => if j = 1 then (.int (own_i2b (own_i2b x3))) else (fun j => if j = 0 then (.int (own_i2b (own_i2b x3))) else (fun _ => (.int (0 : Int32))) j) j) j) j) j) j) j) j) j) j) j) j) j) j) j) := A16
  have ZW16 : n0 ≤ h16.size := by rw [Wr.size W16]; exact ZW15
  show own_Fin _ _ _ _ _ _ _ (T16.setTop (mkF m 114 #[.val (.long x0), .second, .val (.int x1), .val (.int x2), .val (.int x3), .val (.long (own_lushr (x0 &&& (9223372036854775807 : Int64)) (x1 &&& (63 : Int32)))), .second, .val (.int ((x2 &&& (2147483647 : Int32)) % (8 : Int32))), .val (.int (own_i2b x3)), .unset, .unset, .unset] [(.ref b1)]))
  refine own_of (fun _ kk => XS.dup X16.here hx rfl (hb hby at_114) rfl rfl kk) ?_
  show own_Fin _ _ _ _ _ _ _ (T16.setTop (mkF m 115 #[.val (.long x0), .second, .val (.int x1), .val (.int x2), .val (.int x3), .val (.long (own_lushr (x0 &&& (9223372036854775807 : Int64)) (x1 &&& (63 : Int32)))), .second, .val (.int ((x2 &&& (2147483647 : Int32)) % (8 : Int32))), .val (.int (own_i2b x3)), .unset, .unset, .unset] [(.ref b1), (.ref b1)]))
  refine own_of (fun _ kk => XS.bipush X16.here hx rfl (hb hby at_115) kk) ?_
  show own_Fin _ _ _ _ _ _ _ (T16.setTop (mkF m 117 #[.val (.long x0), .second, .val (.int x1), .val (.int x2), .val (.int x3), .val (.long (own_lushr (x0 &&& (9223372036854775807 : Int64)) (x1 &&& (63 : Int32)))), .second, .val (.int ((x2 &&& (2147483647 : Int32)) % (8 : Int32))), .val (.int (own_i2b x3)), .unset, .unset, .unset] [(.int (15 : Int32)), (.ref b1), (.ref b1)]))
  refine own_of (fun _ kk => XS.iload X16.here hx rfl (hb hby at_117) rfl kk) ?_
  show own_Fin _ _ _ _ _ _ _ (T16.setTop (mkF m 119 #[.val (.long x0), .second, .val (.int x1), .val (.int x2), .val (.int x3), .val (.long (own_lushr (x0 &&& (9223372036854775807 : Int64)) (x1 &&& (63 : Int32)))), .second, .val (.int ((x2 &&& (2147483647 : Int32)) % (8 : Int32))), .val (.int (own_i2b x3)), .unset, .unset, .unset] [(.int (own_i2b x3)), (.int (15 : Int32)), (.ref b1), (.ref b1)]))
  refine own_bastore X16 hx hZ e16 A16 N16 ge_b1 (i := 15) (by decide) (by decide) (hb hby at_119) ?_
  intro T17 h17 l17 X17 N17 e17 W17 A17
  replace A17 : own_Arf Z h17 b1 .byte 16 (fun j => if j = 15 then (.int (own_i2b (own_i2b x3))) else (fun j => if j = 14 then (.int (own_i2b (own_i2b x3))) else (fun j => if j = 13 then (.int (own_i2b (own_i2b x3))) else (fun j => if j = 12 then (.int (own_i2b (own_i2b x3))) else (fun j => if j = 11 then (.int (own_i2b (own_i2b x3))) else (fun j => if j = 10 then (.int (own_i2b (own_i2b x3))) else (fun j => if j = 9 then (.int (own_i2b (own_i2b x3))) else (fun j => if j = 8 then (.int (own_i2b (own_i2b x3))) else (fun j => if j = 7 then (.int (own_i2b (own_i2b x3))) else (fun j => if j = 6 then (.int (own_i2b (own_i2b x3))) else (fun j => if j = 5 then (.int (own_i2b (own_i2b x3))) else (fun j => if j = 4 then (.int (own_i2b (own_i2b x3))) else (fun j => if j = 3 then (.int (own_i2b (own_i2b x3))) else (fun j => if j = 2 then (.int (own_i2b (own_i2b x3))) else (fun j => if j = 1 then (.int (own_i2b (own_i2b x3))) else (fun j => if j = 0 then (.int (own_i2b (own_i2b x3))) else (fun _ => (.int (0 : Int32))) j) j) j) j) j) j) j) j) j) j) j) j) j) j) j) j) := A17
  have ZW17 : n0 ≤ h17.size := by rw [Wr.size W17]; exact ZW16
  show own_Fin _ _ _ _ _ _ _ (T17.setTop (mkF m 120 #[.val (.long x0), .second, .val (.int x1), .val (.int x2), .val (.int x3), .val (.long (own_lushr (x0 &&& (9223372036854775807 : Int64)) (x1 &&& (63 : Int32)))), .second, .val (.int ((x2 &&& (2147483647 : Int32)) % (8 : Int32))), .val (.int (own_i2b x3)), .unset, .unset, .unset] [(.ref b1)]))
  refine own_of (fun _ kk => XS.astore X17.here hx rfl (hb hby at_120) rfl rfl (l' := #[.val (.long x0), .second, .val (.int x1), .val (.int x2), .val (.int x3), .val (.long (own_lushr (x0 &&& (9223372036854775807 : Int64)) (x1 &&& (63 : Int32)))), .second, .val (.int ((x2 &&& (2147483647 : Int32)) % (8 : Int32))), .val (.int (own_i2b x3)), .val (.ref b1), .unset, .unset]) rfl kk) ?_
  show own_Fin _ _ _ _ _ _ _ (T17.setTop (mkF m 122 #[.val (.long x0), .second, .val (.int x1), .val (.int x2), .val (.int x3), .val (.long (own_lushr (x0 &&& (9223372036854775807 : Int64)) (x1 &&& (63 : Int32)))), .second, .val (.int ((x2 &&& (2147483647 : Int32)) % (8 : Int32))), .val (.int (own_i2b x3)), .val (.ref b1), .unset, .unset] []))
  refine own_of (fun _ kk => XS.iconst X17.here hx rfl (hb hby at_122) kk) ?_
  show own_Fin _ _ _ _ _ _ _ (T17.setTop (mkF m 123 #[.val (.long x0), .second, .val (.int x1), .val (.int x2), .val (.int x3), .val (.long (own_lushr (x0 &&& (9223372036854775807 : Int64)) (x1 &&& (63 : Int32)))), .second, .val (.int ((x2 &&& (2147483647 : Int32)) % (8 : Int32))), .val (.int (own_i2b x3)), .val (.ref b1), .unset, .unset] [(.int (1 : Int32))]))
  refine own_of (fun _ kk => XS.istore X17.here hx rfl (hb hby at_123) rfl (l' := #[.val (.long x0), .second, .val (.int x1), .val (.int x2), .val (.int x3), .val (.long (own_lushr (x0 &&& (9223372036854775807 : Int64)) (x1 &&& (63 : Int32)))), .second, .val (.int ((x2 &&& (2147483647 : Int32)) % (8 : Int32))), .val (.int (own_i2b x3)), .val (.ref b1), .val (.int (1 : Int32)), .unset]) rfl kk) ?_
  show own_Fin _ _ _ _ _ _ _ (T17.setTop (mkF m 125 #[.val (.long x0), .second, .val (.int x1), .val (.int x2), .val (.int x3), .val (.long (own_lushr (x0 &&& (9223372036854775807 : Int64)) (x1 &&& (63 : Int32)))), .second, .val (.int ((x2 &&& (2147483647 : Int32)) % (8 : Int32))), .val (.int (own_i2b x3)), .val (.ref b1), .val (.int (1 : Int32)), .unset] []))
  refine own_of (fun _ kk => XS.lload X17.here hx rfl (hb hby at_125) rfl kk) ?_
  show own_Fin _ _ _ _ _ _ _ (T17.setTop (mkF m 127 #[.val (.long x0), .second, .val (.int x1), .val (.int x2), .val (.int x3), .val (.long (own_lushr (x0 &&& (9223372036854775807 : Int64)) (x1 &&& (63 : Int32)))), .second, .val (.int ((x2 &&& (2147483647 : Int32)) % (8 : Int32))), .val (.int (own_i2b x3)), .val (.ref b1), .val (.int (1 : Int32)), .unset] [(.long (own_lushr (x0 &&& (9223372036854775807 : Int64)) (x1 &&& (63 : Int32))))]))
  refine own_of (fun _ kk => XS.bipush X17.here hx rfl (hb hby at_127) kk) ?_
  show own_Fin _ _ _ _ _ _ _ (T17.setTop (mkF m 129 #[.val (.long x0), .second, .val (.int x1), .val (.int x2), .val (.int x3), .val (.long (own_lushr (x0 &&& (9223372036854775807 : Int64)) (x1 &&& (63 : Int32)))), .second, .val (.int ((x2 &&& (2147483647 : Int32)) % (8 : Int32))), .val (.int (own_i2b x3)), .val (.ref b1), .val (.int (1 : Int32)), .unset] [(.int (7 : Int32)), (.long (own_lushr (x0 &&& (9223372036854775807 : Int64)) (x1 &&& (63 : Int32))))]))
  refine own_of (fun _ kk => XS.lushr X17.here hx rfl (hb hby at_129) rfl kk) ?_
  show own_Fin _ _ _ _ _ _ _ (T17.setTop (mkF m 130 #[.val (.long x0), .second, .val (.int x1), .val (.int x2), .val (.int x3), .val (.long (own_lushr (x0 &&& (9223372036854775807 : Int64)) (x1 &&& (63 : Int32)))), .second, .val (.int ((x2 &&& (2147483647 : Int32)) % (8 : Int32))), .val (.int (own_i2b x3)), .val (.ref b1), .val (.int (1 : Int32)), .unset] [(.long (own_lushr (own_lushr (x0 &&& (9223372036854775807 : Int64)) (x1 &&& (63 : Int32))) (7 : Int32)))]))
  refine own_of (fun _ kk => XS.lconst X17.here hx rfl (hb hby at_130) kk) ?_
  show own_Fin _ _ _ _ _ _ _ (T17.setTop (mkF m 131 #[.val (.long x0), .second, .val (.int x1), .val (.int x2), .val (.int x3), .val (.long (own_lushr (x0 &&& (9223372036854775807 : Int64)) (x1 &&& (63 : Int32)))), .second, .val (.int ((x2 &&& (2147483647 : Int32)) % (8 : Int32))), .val (.int (own_i2b x3)), .val (.ref b1), .val (.int (1 : Int32)), .unset] [(.long (0 : Int64)), (.long (own_lushr (own_lushr (x0 &&& (9223372036854775807 : Int64)) (x1 &&& (63 : Int32))) (7 : Int32)))]))
  refine own_of (fun _ kk => XS.lcmp X17.here hx rfl (hb hby at_131) rfl kk) ?_
  show own_Fin _ _ _ _ _ _ _ (T17.setTop (mkF m 132 #[.val (.long x0), .second, .val (.int x1), .val (.int x2), .val (.int x3), .val (.long (own_lushr (x0 &&& (9223372036854775807 : Int64)) (x1 &&& (63 : Int32)))), .second, .val (.int ((x2 &&& (2147483647 : Int32)) % (8 : Int32))), .val (.int (own_i2b x3)), .val (.ref b1), .val (.int (1 : Int32)), .unset] [(.int (lcmpW (own_lushr (own_lushr (x0 &&& (9223372036854775807 : Int64)) (x1 &&& (63 : Int32))) (7 : Int32)) (0 : Int64)))]))
  suffices k18 : own_Fin _ _ _ _ _ _ _ (T17.setTop (mkF m 138 #[.val (.long x0), .second, .val (.int x1), .val (.int x2), .val (.int x3), .val (.long (own_lushr (x0 &&& (9223372036854775807 : Int64)) (x1 &&& (63 : Int32)))), .second, .val (.int ((x2 &&& (2147483647 : Int32)) % (8 : Int32))), .val (.int (own_i2b x3)), .val (.ref b1), .val (.int (own_m0_138a x0 x1)), .unset] [])) by
    by_cases c132 : (own_lushr (own_lushr (x0 &&& (9223372036854775807 : Int64)) (x1 &&& (63 : Int32))) (7 : Int32)) = (0 : Int64)
    · refine own_of (fun _ kk => XS.ifYes X17.here hx rfl (pc0 := 132) (pc' := 138) rfl (hb hby at_132) rfl ((if0 _ _).trans (teq ((lw_eq _ _).mpr c132)).1) (by decide) (by decide) kk) ?_
      show own_Fin _ _ _ _ _ _ _ (T17.setTop (mkF m 138 #[.val (.long x0), .second, .val (.int x1), .val (.int x2), .val (.int x3), .val (.long (own_lushr (x0 &&& (9223372036854775807 : Int64)) (x1 &&& (63 : Int32)))), .second, .val (.int ((x2 &&& (2147483647 : Int32)) % (8 : Int32))), .val (.int (own_i2b x3)), .val (.ref b1), .val (.int (1 : Int32)), .unset] []))
      simp only [own_m0_138a, if_pos c132] at k18 ⊢
      exact k18
    · refine own_of (fun _ kk => XS.ifNo X17.here hx rfl (hb hby at_132) rfl ((if0 _ _).trans (feq (mt (lw_eq _ _).mp c132)).1) kk) ?_
      show own_Fin _ _ _ _ _ _ _ (T17.setTop (mkF m 135 #[.val (.long x0), .second, .val (.int x1), .val (.int x2), .val (.int x3), .val (.long (own_lushr (x0 &&& (9223372036854775807 : Int64)) (x1 &&& (63 : Int32)))), .second, .val (.int ((x2 &&& (2147483647 : Int32)) % (8 : Int32))), .val (.int (own_i2b x3)), .val (.ref b1), .val (.int (1 : Int32)), .unset] []))
      refine own_of (fun _ kk => XS.iconst X17.here hx rfl (hb hby at_135) kk) ?_
      show own_Fin _ _ _ _ _ _ _ (T17.setTop (mkF m 136 #[.val (.long x0), .second, .val (.int x1), .val (.int x2), .val (.int x3), .val (.long (own_lushr (x0 &&& (9223372036854775807 : Int64)) (x1 &&& (63 : Int32)))), .second, .val (.int ((x2 &&& (2147483647 : Int32)) % (8 : Int32))), .val (.int (own_i2b x3)), .val (.ref b1), .val (.int (1 : Int32)), .unset] [(.int (2 : Int32))]))
      refine own_of (fun _ kk => XS.istore X17.here hx rfl (hb hby at_136) rfl (l' := #[.val (.long x0), .second, .val (.int x1), .val (.int x2), .val (.int x3), .val (.long (own_lushr (x0 &&& (9223372036854775807 : Int64)) (x1 &&& (63 : Int32)))), .second, .val (.int ((x2 &&& (2147483647 : Int32)) % (8 : Int32))), .val (.int (own_i2b x3)), .val (.ref b1), .val (.int (2 : Int32)), .unset]) rfl kk) ?_
      show own_Fin _ _ _ _ _ _ _ (T17.setTop (mkF m 138 #[.val (.long x0), .second, .val (.int x1), .val (.int x2), .val (.int x3), .val (.long (own_lushr (x0 &&& (9223372036854775807 : Int64)) (x1 &&& (63 : Int32)))), .second, .val (.int ((x2 &&& (2147483647 : Int32)) % (8 : Int32))), .val (.int (own_i2b x3)), .val (.ref b1), .val (.int (2 : Int32)), .unset] []))
      simp only [own_m0_138a, if_neg c132] at k18 ⊢
      exact k18
  show own_Fin _ _ _ _ _ _ _ (T17.setTop (mkF m 138 #[.val (.long x0), .second, .val (.int x1), .val (.int x2), .val (.int x3), .val (.long (own_lushr (x0 &&& (9223372036854775807 : Int64)) (x1 &&& (63 : Int32)))), .second, .val (.int ((x2 &&& (2147483647 : Int32)) % (8 : Int32))), .val (.int (own_i2b x3)), .val (.ref b1), .val (.int (own_m0_138a x0 x1)), .unset] []))
  refine own_of (fun _ kk => XS.lload X17.here hx rfl (hb hby at_138) rfl kk) ?_
  show own_Fin _ _ _ _ _ _ _ (T17.setTop (mkF m 140 #[.val (.long x0), .second, .val (.int x1), .val (.int x2), .val (.int x3), .val (.long (own_lushr (x0 &&& (9223372036854775807 : Int64)) (x1 &&& (63 : Int32)))), .second, .val (.int ((x2 &&& (2147483647 : Int32)) % (8 : Int32))), .val (.int (own_i2b x3)), .val (.ref b1), .val (.int (own_m0_138a x0 x1)), .unset] [(.long (own_lushr (x0 &&& (9223372036854775807 : Int64)) (x1 &&& (63 : Int32))))]))
  refine own_of (fun _ kk => XS.bipush X17.here hx rfl (hb hby at_140) kk) ?_
  show own_Fin _ _ _ _ _ _ _ (T17.setTop (mkF m 142 #[.val (.long x0), .second, .val (.int x1), .val (.int x2), .val (.int x3), .val (.long (own_lushr (x0 &&& (9223372036854775807 : Int64)) (x1 &&& (63 : Int32)))), .second, .val (.int ((x2 &&& (2147483647 : Int32)) % (8 : Int32))), .val (.int (own_i2b x3)), .val (.ref b1), .val (.int (own_m0_138a x0 x1)), .unset] [(.int (14 : Int32)), (.long (own_lushr (x0 &&& (9223372036854775807 : Int64)) (x1 &&& (63 : Int32))))]))
  refine own_of (fun _ kk => XS.lushr X17.here hx rfl (hb hby at_142) rfl kk) ?_
  show own_Fin _ _ _ _ _ _ _ (T17.setTop (mkF m 143 #[.val (.long x0), .second, .val (.int x1), .val (.int x2), .val (.int x3), .val (.long (own_lushr (x0 &&& (9223372036854775807 : Int64)) (x1 &&& (63 : Int32)))), .second, .val (.int ((x2 &&& (2147483647 : Int32)) % (8 : Int32))), .val (.int (own_i2b x3)), .val (.ref b1), .val (.int (own_m0_138a x0 x1)), .unset] [(.long (own_lushr (own_lushr (x0 &&& (9223372036854775807 : Int64)) (x1 &&& (63 : Int32))) (14 : Int32)))]))
  refine own_of (fun _ kk => XS.lconst X17.here hx rfl (hb hby at_143) kk) ?_
  show own_Fin _ _ _ _ _ _ _ (T17.setTop (mkF m 144 #[.val (.long x0), .second, .val (.int x1), .val (.int x2), .val (.int x3), .val (.long (own_lushr (x0 &&& (9223372036854775807 : Int64)) (x1 &&& (63 : Int32)))), .second, .val (.int ((x2 &&& (2147483647 : Int32)) % (8 : Int32))), .val (.int (own_i2b x3)), .val (.ref b1), .val (.int (own_m0_138a x0 x1)), .unset] [(.long (0 : Int64)), (.long (own_lushr (own_lushr (x0 &&& (9223372036854775807 : Int64)) (x1 &&& (63 : Int32))) (14 : Int32)))]))
  refine own_of (fun _ kk => XS.lcmp X17.here hx rfl (hb hby at_144) rfl kk) ?_
  show own_Fin _ _ _ _ _ _ _ (T17.setTop (mkF m 145 #[.val (.long x0), .second, .val (.int x1), .val (.int x2), .val (.int x3), .val (.long (own_lushr (x0 &&& (9223372036854775807 : Int64)) (x1 &&& (63 : Int32)))), .second, .val (.int ((x2 &&& (2147483647 : Int32)) % (8 : Int32))), .val (.int (own_i2b x3)), .val (.ref b1), .val (.int (own_m0_138a x0 x1)), .unset] [(.int (lcmpW (own_lushr (own_lushr (x0 &&& (9223372036854775807 : Int64)) (x1 &&& (63 : Int32))) (14 : Int32)) (0 : Int64)))]))
  suffices k19 : own_Fin _ _ _ _ _ _ _ (T17.setTop (mkF m 151 #[.val (.long x0), .second, .val (.int x1), .val (.int x2), .val (.int x3), .val (.long (own_lushr (x0 &&& (9223372036854775807 : Int64)) (x1 &&& (63 : Int32)))), .second, .val (.int ((x2 &&& (2147483647 : Int32)) % (8 : Int32))), .val (.int (own_i2b x3)), .val (.ref b1), .val (.int (own_m0_151a x0 x1)), .unset] [])) by
    by_cases c145 : (own_lushr (own_lushr (x0 &&& (9223372036854775807 : Int64)) (x1 &&& (63 : Int32))) (14 : Int32)) = (0 : Int64)
    · refine own_of (fun _ kk => XS.ifYes X17.here hx rfl (pc0 := 145) (pc' := 151) rfl (hb hby at_145) rfl ((if0 _ _).trans (teq ((lw_eq _ _).mpr c145)).1) (by decide) (by decide) kk) ?_
      show own_Fin _ _ _ _ _ _ _ (T17.setTop (mkF m 151 #[.val (.long x0), .second, .val (.int x1), .val (.int x2), .val (.int x3), .val (.long (own_lushr (x0 &&& (9223372036854775807 : Int64)) (x1 &&& (63 : Int32)))), .second, .val (.int ((x2 &&& (2147483647 : Int32)) % (8 : Int32))), .val (.int (own_i2b x3)), .val (.ref b1), .val (.int (own_m0_138a x0 x1)), .unset] []))
      simp only [own_m0_151a, if_pos c145] at k19 ⊢
      exact k19
    · refine own_of (fun _ kk => XS.ifNo X17.here hx rfl (hb hby at_145) rfl ((if0 _ _).trans (feq (mt (lw_eq _ _).mp c145)).1) kk) ?_
      show own_Fin _ _ _ _ _ _ _ (T17.setTop (mkF m 148 #[.val (.long x0), .second, .val (.int x1), .val (.int x2), .val (.int x3), .val (.long (own_lushr (x0 &&& (9223372036854775807 : Int64)) (x1 &&& (63 : Int32)))), .second, .val (.int ((x2 &&& (2147483647 : Int32)) % (8 : Int32))), .val (.int (own_i2b x3)), .val (.ref b1), .val (.int (own_m0_138a x0 x1)), .unset] []))
      refine own_of (fun _ kk => XS.iconst X17.here hx rfl (hb hby at_148) kk) ?_
      show own_Fin _ _ _ _ _ _ _ (T17.setTop (mkF m 149 #[.val (.long x0), .second, .val (.int x1), .val (.int x2), .val (.int x3), .val (.long (own_lushr (x0 &&& (9223372036854775807 : Int64)) (x1 &&& (63 : Int32)))), .second, .val (.int ((x2 &&& (2147483647 : Int32)) % (8 : Int32))), .val (.int (own_i2b x3)), .val (.ref b1), .val (.int (own_m0_138a x0 x1)), .unset] [(.int (3 : Int32))]))
      refine own_of (fun _ kk => XS.istore X17.here hx rfl (hb hby at_149) rfl (l' := #[.val (.long x0), .second, .val (.int x1), .val (.int x2), .val (.int x3), .val (.long (own_lushr (x0 &&& (9223372036854775807 : Int64)) (x1 &&& (63 : Int32)))), .second, .val (.int ((x2 &&& (2147483647 : Int32)) % (8 : Int32))), .val (.int (own_i2b x3)), .val (.ref b1), .val (.int (3 : Int32)), .unset]) rfl kk) ?_
      show own_Fin _ _ _ _ _ _ _ (T17.setTop (mkF m 151 #[.val (.long x0), .second, .val (.int x1), .val (.int x2), .val (.int x3), .val (.long (own_lushr (x0 &&& (9223372036854775807 : Int64)) (x1 &&& (63 : Int32)))), .second, .val (.int ((x2 &&& (2147483647 : Int32)) % (8 : Int32))), .val (.int (own_i2b x3)), .val (.ref b1), .val (.int (3 : Int32)), .unset] []))
      simp only [own_m0_151a, if_neg c145] at k19 ⊢
      exact k19
  show own_Fin _ _ _ _ _ _ _ (T17.setTop (mkF m 151 #[.val (.long x0), .second, .val (.int x1), .val (.int x2), .val (.int x3), .val (.long (own_lushr (x0 &&& (9223372036854775807 : Int64)) (x1 &&& (63 : Int32)))), .second, .val (.int ((x2 &&& (2147483647 : Int32)) % (8 : Int32))), .val (.int (own_i2b x3)), .val (.ref b1), .val (.int (own_m0_151a x0 x1)), .unset] []))
  refine own_of (fun _ kk => XS.lload X17.here hx rfl (hb hby at_151) rfl kk) ?_
  show own_Fin _ _ _ _ _ _ _ (T17.setTop (mkF m 153 #[.val (.long x0), .second, .val (.int x1), .val (.int x2), .val (.int x3), .val (.long (own_lushr (x0 &&& (9223372036854775807 : Int64)) (x1 &&& (63 : Int32)))), .second, .val (.int ((x2 &&& (2147483647 : Int32)) % (8 : Int32))), .val (.int (own_i2b x3)), .val (.ref b1), .val (.int (own_m0_151a x0 x1)), .unset] [(.long (own_lushr (x0 &&& (9223372036854775807 : Int64)) (x1 &&& (63 : Int32))))]))
  refine own_of (fun _ kk => XS.bipush X17.here hx rfl (hb hby at_153) kk) ?_
  show own_Fin _ _ _ _ _ _ _ (T17.setTop (mkF m 155 #[.val (.long x0), .second, .val (.int x1), .val (.int x2), .val (.int x3), .val (.long (own_lushr (x0 &&& (9223372036854775807 : Int64)) (x1 &&& (63 : Int32)))), .second, .val (.int ((x2 &&& (2147483647 : Int32)) % (8 : Int32))), .val (.int (own_i2b x3)), .val (.ref b1), .val (.int (own_m0_151a x0 x1)), .unset] [(.int (21 : Int32)), (.long (own_lushr (x0 &&& (9223372036854775807 : Int64)) (x1 &&& (63 : Int32))))]))
  refine own_of (fun _ kk => XS.lushr X17.here hx rfl (hb hby at_155) rfl kk) ?_
  show own_Fin _ _ _ _ _ _ _ (T17.setTop (mkF m 156 #[.val (.long x0), .second, .val (.int x1), .val (.int x2), .val (.int x3), .val (.long (own_lushr (x0 &&& (9223372036854775807 : Int64)) (x1 &&& (63 : Int32)))), .second, .val (.int ((x2 &&& (2147483647 : Int32)) % (8 : Int32))), .val (.int (own_i2b x3)), .val (.ref b1), .val (.int (own_m0_151a x0 x1)), .unset] [(.long (own_lushr (own_lushr (x0 &&& (9223372036854775807 : Int64)) (x1 &&& (63 : Int32))) (21 : Int32)))]))
  refine own_of (fun _ kk => XS.lconst X17.here hx rfl (hb hby at_156) kk) ?_
  show own_Fin _ _ _ _ _ _ _ (T17.setTop (mkF m 157 #[.val (.long x0), .second, .val (.int x1), .val (.int x2), .val (.int x3), .val (.long (own_lushr (x0 &&& (9223372036854775807 : Int64)) (x1 &&& (63 : Int32)))), .second, .val (.int ((x2 &&& (2147483647 : Int32)) % (8 : Int32))), .val (.int (own_i2b x3)), .val (.ref b1), .val (.int (own_m0_151a x0 x1)), .unset] [(.long (0 : Int64)), (.long (own_lushr (own_lushr (x0 &&& (9223372036854775807 : Int64)) (x1 &&& (63 : Int32))) (21 : Int32)))]))
  refine own_of (fun _ kk => XS.lcmp X17.here hx rfl (hb hby at_157) rfl kk) ?_
  show own_Fin _ _ _ _ _ _ _ (T17.setTop (mkF m 158 #[.val (.long x0), .second, .val (.int x1), .val (.int x2), .val (.int x3), .val (.long (own_lushr (x0 &&& (9223372036854775807 : Int64)) (x1 &&& (63 : Int32)))), .second, .val (.int ((x2 &&& (2147483647 : Int32)) % (8 : Int32))), .val (.int (own_i2b x3)), .val (.ref b1), .val (.int (own_m0_151a x0 x1)), .unset] [(.int (lcmpW (own_lushr (own_lushr (x0 &&& (9223372036854775807 : Int64)) (x1 &&& (63 : Int32))) (21 : Int32)) (0 : Int64)))]))
  suffices k20 : own_Fin _ _ _ _ _ _ _ (T17.setTop (mkF m 164 #[.val (.long x0), .second, .val (.int x1), .val (.int x2), .val (.int x3), .val (.long (own_lushr (x0 &&& (9223372036854775807 : Int64)) (x1 &&& (63 : Int32)))), .second, .val (.int ((x2 &&& (2147483647 : Int32)) % (8 : Int32))), .val (.int (own_i2b x3)), .val (.ref b1), .val (.int (own_m0_164a x0 x1)), .unset] [])) by
    by_cases c158 : (own_lushr (own_lushr (x0 &&& (9223372036854775807 : Int64)) (x1 &&& (63 : Int32))) (21 : Int32)) = (0 : Int64)
    · refine own_of (fun _ kk => XS.ifYes X17.here hx rfl (pc0 := 158) (pc' := 164) rfl (hb hby at_158) rfl ((if0 _ _).trans (teq ((lw_eq _ _).mpr c158)).1) (by decide) (by decide) kk) ?_
      show own_Fin _ _ _ _ _ _ _ (T17.setTop (mkF m 164 #[.val (.long x0), .second, .val (.int x1), .val (.int x2), .val (.int x3), .val (.long (own_lushr (x0 &&& (9223372036854775807 : Int64)) (x1 &&& (63 : Int32)))), .second, .val (.int ((x2 &&& (2147483647 : Int32)) % (8 : Int32))), .val (.int (own_i2b x3)), .val (.ref b1), .val (.int (own_m0_151a x0 x1)), .unset] []))
      simp only [own_m0_164a, if_pos c158] at k20 ⊢
      exact k20
    · refine own_of (fun _ kk => XS.ifNo X17.here hx rfl (hb hby at_158) rfl ((if0 _ _).trans (feq (mt (lw_eq _ _).mp c158)).1) kk) ?_
      show own_Fin _ _ _ _ _ _ _ (T17.setTop (mkF m 161 #[.val (.long x0), .second, .val (.int x1), .val (.int x2), .val (.int x3), .val (.long (own_lushr (x0 &&& (9223372036854775807 : Int64)) (x1 &&& (63 : Int32)))), .second, .val (.int ((x2 &&& (2147483647 : Int32)) % (8 : Int32))), .val (.int (own_i2b x3)), .val (.ref b1), .val (.int (own_m0_151a x0 x1)), .unset] []))
      refine own_of (fun _ kk => XS.iconst X17.here hx rfl (hb hby at_161) kk) ?_
      show own_Fin _ _ _ _ _ _ _ (T17.setTop (mkF m 162 #[.val (.long x0), .second, .val (.int x1), .val (.int x2), .val (.int x3), .val (.long (own_lushr (x0 &&& (9223372036854775807 : Int64)) (x1 &&& (63 : Int32)))), .second, .val (.int ((x2 &&& (2147483647 : Int32)) % (8 : Int32))), .val (.int (own_i2b x3)), .val (.ref b1), .val (.int (own_m0_151a x0 x1)), .unset] [(.int (4 : Int32))]))
      refine own_of (fun _ kk => XS.istore X17.here hx rfl (hb hby at_162) rfl (l' := #[.val (.long x0), .second, .val (.int x1), .val (.int x2), .val (.int x3), .val (.long (own_lushr (x0 &&& (9223372036854775807 : Int64)) (x1 &&& (63 : Int32)))), .second, .val (.int ((x2 &&& (2147483647 : Int32)) % (8 : Int32))), .val (.int (own_i2b x3)), .val (.ref b1), .val (.int (4 : Int32)), .unset]) rfl kk) ?_
      show own_Fin _ _ _ _ _ _ _ (T17.setTop (mkF m 164 #[.val (.long x0), .second, .val (.int x1), .val (.int x2), .val (.int x3), .val (.long (own_lushr (x0 &&& (9223372036854775807 : Int64)) (x1 &&& (63 : Int32)))), .second, .val (.int ((x2 &&& (2147483647 : Int32)) % (8 : Int32))), .val (.int (own_i2b x3)), .val (.ref b1), .val (.int (4 : Int32)), .unset] []))
      simp only [own_m0_164a, if_neg c158] at k20 ⊢
      exact k20
  show own_Fin _ _ _ _ _ _ _ (T17.setTop (mkF m 164 #[.val (.long x0), .second, .val (.int x1), .val (.int x2), .val (.int x3), .val (.long (own_lushr (x0 &&& (9223372036854775807 : Int64)) (x1 &&& (63 : Int32)))), .second, .val (.int ((x2 &&& (2147483647 : Int32)) % (8 : Int32))), .val (.int (own_i2b x3)), .val (.ref b1), .val (.int (own_m0_164a x0 x1)), .unset] []))
  refine own_of (fun _ kk => XS.lload X17.here hx rfl (hb hby at_164) rfl kk) ?_
  show own_Fin _ _ _ _ _ _ _ (T17.setTop (mkF m 166 #[.val (.long x0), .second, .val (.int x1), .val (.int x2), .val (.int x3), .val (.long (own_lushr (x0 &&& (9223372036854775807 : Int64)) (x1 &&& (63 : Int32)))), .second, .val (.int ((x2 &&& (2147483647 : Int32)) % (8 : Int32))), .val (.int (own_i2b x3)), .val (.ref b1), .val (.int (own_m0_164a x0 x1)), .unset] [(.long (own_lushr (x0 &&& (9223372036854775807 : Int64)) (x1 &&& (63 : Int32))))]))
  refine own_of (fun _ kk => XS.bipush X17.here hx rfl (hb hby at_166) kk) ?_
  show own_Fin _ _ _ _ _ _ _ (T17.setTop (mkF m 168 #[.val (.long x0), .second, .val (.int x1), .val (.int x2), .val (.int x3), .val (.long (own_lushr (x0 &&& (9223372036854775807 : Int64)) (x1 &&& (63 : Int32)))), .second, .val (.int ((x2 &&& (2147483647 : Int32)) % (8 : Int32))), .val (.int (own_i2b x3)), .val (.ref b1), .val (.int (own_m0_164a x0 x1)), .unset] [(.int (28 : Int32)), (.long (own_lushr (x0 &&& (9223372036854775807 : Int64)) (x1 &&& (63 : Int32))))]))
  refine own_of (fun _ kk => XS.lushr X17.here hx rfl (hb hby at_168) rfl kk) ?_
  show own_Fin _ _ _ _ _ _ _ (T17.setTop (mkF m 169 #[.val (.long x0), .second, .val (.int x1), .val (.int x2), .val (.int x3), .val (.long (own_lushr (x0 &&& (9223372036854775807 : Int64)) (x1 &&& (63 : Int32)))), .second, .val (.int ((x2 &&& (2147483647 : Int32)) % (8 : Int32))), .val (.int (own_i2b x3)), .val (.ref b1), .val (.int (own_m0_164a x0 x1)), .unset] [(.long (own_lushr (own_lushr (x0 &&& (9223372036854775807 : Int64)) (x1 &&& (63 : Int32))) (28 : Int32)))]))
  refine own_of (fun _ kk => XS.lconst X17.here hx rfl (hb hby at_169) kk) ?_
  show own_Fin _ _ _ _ _ _ _ (T17.setTop (mkF m 170 #[.val (.long x0), .second, .val (.int x1), .val (.int x2), .val (.int x3), .val (.long (own_lushr (x0 &&& (9223372036854775807 : Int64)) (x1 &&& (63 : Int32)))), .second, .val (.int ((x2 &&& (2147483647 : Int32)) % (8 : Int32))), .val (.int (own_i2b x3)), .val (.ref b1), .val (.int (own_m0_164a x0 x1)), .unset] [(.long (0 : Int64)), (.long (own_lushr (own_lushr (x0 &&& (9223372036854775807 : Int64)) (x1 &&& (63 : Int32))) (28 : Int32)))]))
  refine own_of (fun _ kk => XS.lcmp X17.here hx rfl (hb hby at_170) rfl kk) ?_
  show own_Fin _ _ _ _ _ _ _ (T17.setTop (mkF m 171 #[.val (.long x0), .second, .val (.int x1), .val (.int x2), .val (.int x3), .val (.long (own_lushr (x0 &&& (9223372036854775807 : Int64)) (x1 &&& (63 : Int32)))), .second, .val (.int ((x2 &&& (2147483647 : Int32)) % (8 : Int32))), .val (.int (own_i2b x3)), .val (.ref b1), .val (.int (own_m0_164a x0 x1)), .unset] [(.int (lcmpW (own_lushr (own_lushr (x0 &&& (9223372036854775807 : Int64)) (x1 &&& (63 : Int32))) (28 : Int32)) (0 : Int64)))]))
  suffices k21 : own_Fin _ _ _ _ _ _ _ (T17.setTop (mkF m 177 #[.val (.long x0), .second, .val (.int x1), .val (.int x2), .val (.int x3), .val (.long (own_lushr (x0 &&& (9223372036854775807 : Int64)) (x1 &&& (63 : Int32)))), .second, .val (.int ((x2 &&& (2147483647 : Int32)) % (8 : Int32))), .val (.int (own_i2b x3)), .val (.ref b1), .val (.int (own_m0_177a x0 x1)), .unset] [])) by
    by_cases c171 : (own_lushr (own_lushr (x0 &&& (9223372036854775807 : Int64)) (x1 &&& (63 : Int32))) (28 : Int32)) = (0 : Int64)
    · refine own_of (fun _ kk => XS.ifYes X17.here hx rfl (pc0 := 171) (pc' := 177) rfl (hb hby at_171) rfl ((if0 _ _).trans (teq ((lw_eq _ _).mpr c171)).1) (by decide) (by decide) kk) ?_
      show own_Fin _ _ _ _ _ _ _ (T17.setTop (mkF m 177 #[.val (.long x0), .second, .val (.int x1), .val (.int x2), .val (.int x3), .val (.long (own_lushr (x0 &&& (9223372036854775807 : Int64)) (x1 &&& (63 : Int32)))), .second, .val (.int ((x2 &&& (2147483647 : Int32)) % (8 : Int32))), .val (.int (own_i2b x3)), .val (.ref b1), .val (.int (own_m0_164a x0 x1)), .unset] []))
      simp only [own_m0_177a, if_pos c171] at k21 ⊢
      exact k21
    · refine own_of (fun _ kk => XS.ifNo X17.here hx rfl (hb hby at_171) rfl ((if0 _ _).trans (feq (mt (lw_eq _ _).mp c171)).1) kk) ?_
      show own_Fin _ _ _ _ _ _ _ (T17.setTop (mkF m 174 #[.val (.long x0), .second, .val (.int x1), .val (.int x2), .val (.int x3), .val (.long (own_lushr (x0 &&& (9223372036854775807 : Int64)) (x1 &&& (63 : Int32)))), .second, .val (.int ((x2 &&& (2147483647 : Int32)) % (8 : Int32))), .val (.int (own_i2b x3)), .val (.ref b1), .val (.int (own_m0_164a x0 x1)), .unset] []))
      refine own_of (fun _ kk => XS.iconst X17.here hx rfl (hb hby at_174) kk) ?_
      show own_Fin _ _ _ _ _ _ _ (T17.setTop (mkF m 175 #[.val (.long x0), .second, .val (.int x1), .val (.int x2), .val (.int x3), .val (.long (own_lushr (x0 &&& (9223372036854775807 : Int64)) (x1 &&& (63 : Int32)))), .second, .val (.int ((x2 &&& (2147483647 : Int32)) % (8 : Int32))), .val (.int (own_i2b x3)), .val (.ref b1), .val (.int (own_m0_164a x0 x1)), .unset] [(.int (5 : Int32))]))
      refine own_of (fun _ kk => XS.istore X17.here hx rfl (hb hby at_175) rfl (l' := #[.val (.long x0), .second, .val (.int x1), .val (.int x2), .val (.int x3), .val (.long (own_lushr (x0 &&& (9223372036854775807 : Int64)) (x1 &&& (63 : Int32)))), .second, .val (.int ((x2 &&& (2147483647 : Int32)) % (8 : Int32))), .val (.int (own_i2b x3)), .val (.ref b1), .val (.int (5 : Int32)), .unset]) rfl kk) ?_
      show own_Fin _ _ _ _ _ _ _ (T17.setTop (mkF m 177 #[.val (.long x0), .second, .val (.int x1), .val (.int x2), .val (.int x3), .val (.long (own_lushr (x0 &&& (9223372036854775807 : Int64)) (x1 &&& (63 : Int32)))), .second, .val (.int ((x2 &&& (2147483647 : Int32)) % (8 : Int32))), .val (.int (own_i2b x3)), .val (.ref b1), .val (.int (5 : Int32)), .unset] []))
      simp only [own_m0_177a, if_neg c171] at k21 ⊢
      exact k21
  show own_Fin _ _ _ _ _ _ _ (T17.setTop (mkF m 177 #[.val (.long x0), .second, .val (.int x1), .val (.int x2), .val (.int x3), .val (.long (own_lushr (x0 &&& (9223372036854775807 : Int64)) (x1 &&& (63 : Int32)))), .second, .val (.int ((x2 &&& (2147483647 : Int32)) % (8 : Int32))), .val (.int (own_i2b x3)), .val (.ref b1), .val (.int (own_m0_177a x0 x1)), .unset] []))
  refine own_of (fun _ kk => XS.lload X17.here hx rfl (hb hby at_177) rfl kk) ?_
  show own_Fin _ _ _ _ _ _ _ (T17.setTop (mkF m 179 #[.val (.long x0), .second, .val (.int x1), .val (.int x2), .val (.int x3), .val (.long (own_lushr (x0 &&& (9223372036854775807 : Int64)) (x1 &&& (63 : Int32)))), .second, .val (.int ((x2 &&& (2147483647 : Int32)) % (8 : Int32))), .val (.int (own_i2b x3)), .val (.ref b1), .val (.int (own_m0_177a x0 x1)), .unset] [(.long (own_lushr (x0 &&& (9223372036854775807 : Int64)) (x1 &&& (63 : Int32))))]))
  refine own_of (fun _ kk => XS.bipush X17.here hx rfl (hb hby at_179) kk) ?_
  show own_Fin _ _ _ _ _ _ _ (T17.setTop (mkF m 181 #[.val (.long x0), .second, .val (.int x1), .val (.int x2), .val (.int x3), .val (.long (own_lushr (x0 &&& (9223372036854775807 : Int64)) (x1 &&& (63 : Int32)))), .second, .val (.int ((x2 &&& (2147483647 : Int32)) % (8 : Int32))), .val (.int (own_i2b x3)), .val (.ref b1), .val (.int (own_m0_177a x0 x1)), .unset] [(.int (35 : Int32)), (.long (own_lushr (x0 &&& (9223372036854775807 : Int64)) (x1 &&& (63 : Int32))))]))
  refine own_of (fun _ kk => XS.lushr X17.here hx rfl (hb hby at_181) rfl kk) ?_
  show own_Fin _ _ _ _ _ _ _ (T17.setTop (mkF m 182 #[.val (.long x0), .second, .val (.int x1), .val (.int x2), .val (.int x3), .val (.long (own_lushr (x0 &&& (9223372036854775807 : Int64)) (x1 &&& (63 : Int32)))), .second, .val (.int ((x2 &&& (2147483647 : Int32)) % (8 : Int32))), .val (.int (own_i2b x3)), .val (.ref b1), .val (.int (own_m0_177a x0 x1)), .unset] [(.long (own_lushr (own_lushr (x0 &&& (9223372036854775807 : Int64)) (x1 &&& (63 : Int32))) (35 : Int32)))]))
  refine own_of (fun _ kk => XS.lconst X17.here hx rfl (hb hby at_182) kk) ?_
  show own_Fin _ _ _ _ _ _ _ (T17.setTop (mkF m 183 #[.val (.long x0), .second, .val (.int x1), .val (.int x2), .val (.int x3), .val (.long (own_lushr (x0 &&& (9223372036854775807 : Int64)) (x1 &&& (63 : Int32)))), .second, .val (.int ((x2 &&& (2147483647 : Int32)) % (8 : Int32))), .val (.int (own_i2b x3)), .val (.ref b1), .val (.int (own_m0_177a x0 x1)), .unset] [(.long (0 : Int64)), (.long (own_lushr (own_lushr (x0 &&& (9223372036854775807 : Int64)) (x1 &&& (63 : Int32))) (35 : Int32)))]))
  refine own_of (fun _ kk => XS.lcmp X17.here hx rfl (hb hby at_183) rfl kk) ?_
  show own_Fin _ _ _ _ _ _ _ (T17.setTop (mkF m 184 #[.val (.long x0), .second, .val (.int x1), .val (.int x2), .val (.int x3), .val (.long (own_lushr (x0 &&& (9223372036854775807 : Int64)) (x1 &&& (63 : Int32)))), .second, .val (.int ((x2 &&& (2147483647 : Int32)) % (8 : Int32))), .val (.int (own_i2b x3)), .val (.ref b1), .val (.int (own_m0_177a x0 x1)), .unset] [(.int (lcmpW (own_lushr (own_lushr (x0 &&& (9223372036854775807 : Int64)) (x1 &&& (63 : Int32))) (35 : Int32)) (0 : Int64)))]))
  suffices k22 : own_Fin _ _ _ _ _ _ _ (T17.setTop (mkF m 191 #[.val (.long x0), .second, .val (.int x1), .val (.int x2), .val (.int x3), .val (.long (own_lushr (x0 &&& (9223372036854775807 : Int64)) (x1 &&& (63 : Int32)))), .second, .val (.int ((x2 &&& (2147483647 : Int32)) % (8 : Int32))), .val (.int (own_i2b x3)), .val (.ref b1), .val (.int (own_m0_191a x0 x1)), .unset] [])) by
    by_cases c184 : (own_lushr (own_lushr (x0 &&& (9223372036854775807 : Int64)) (x1 &&& (63 : Int32))) (35 : Int32)) = (0 : Int64)
    · refine own_of (fun _ kk => XS.ifYes X17.here hx rfl (pc0 := 184) (pc' := 191) rfl (hb hby at_184) rfl ((if0 _ _).trans (teq ((lw_eq _ _).mpr c184)).1) (by decide) (by decide) kk) ?_
      show own_Fin _ _ _ _ _ _ _ (T17.setTop (mkF m 191 #[.val (.long x0), .second, .val (.int x1), .val (.int x2), .val (.int x3), .val (.long (own_lushr (x0 &&& (9223372036854775807 : Int64)) (x1 &&& (63 : Int32)))), .second, .val (.int ((x2 &&& (2147483647 : Int32)) % (8 : Int32))), .val (.int (own_i2b x3)), .val (.ref b1), .val (.int (own_m0_177a x0 x1)), .unset] []))
      simp only [own_m0_191a, if_pos c184] at k22 ⊢
      exact k22
    · refine own_of (fun _ kk => XS.ifNo X17.here hx rfl (hb hby at_184) rfl ((if0 _ _).trans (feq (mt (lw_eq _ _).mp c184)).1) kk) ?_
      show own_Fin _ _ _ _ _ _ _ (T17.setTop (mkF m 187 #[.val (.long x0), .second, .val (.int x1), .val (.int x2), .val (.int x3), .val (.long (own_lushr (x0 &&& (9223372036854775807 : Int64)) (x1 &&& (63 : Int32)))), .second, .val (.int ((x2 &&& (2147483647 : Int32)) % (8 : Int32))), .val (.int (own_i2b x3)), .val (.ref b1), .val (.int (own_m0_177a x0 x1)), .unset] []))
      refine own_of (fun _ kk => XS.bipush X17.here hx rfl (hb hby at_187) kk) ?_
      show own_Fin _ _ _ _ _ _ _ (T17.setTop (mkF m 189 #[.val (.long x0), .second, .val (.int x1), .val (.int x2), .val (.int x3), .val (.long (own_lushr (x0 &&& (9223372036854775807 : Int64)) (x1 &&& (63 : Int32)))), .second, .val (.int ((x2 &&& (2147483647 : Int32)) % (8 : Int32))), .val (.int (own_i2b x3)), .val (.ref b1), .val (.int (own_m0_177a x0 x1)), .unset] [(.int (6 : Int32))]))
      refine own_of (fun _ kk => XS.istore X17.here hx rfl (hb hby at_189) rfl (l' := #[.val (.long x0), .second, .val (.int x1), .val (.int x2), .val (.int x3), .val (.long (own_lushr (x0 &&& (9223372036854775807 : Int64)) (x1 &&& (63 : Int32)))), .second, .val (.int ((x2 &&& (2147483647 : Int32)) % (8 : Int32))), .val (.int (own_i2b x3)), .val (.ref b1), .val (.int (6 : Int32)), .unset]) rfl kk) ?_
      show own_Fin _ _ _ _ _ _ _ (T17.setTop (mkF m 191 #[.val (.long x0), .second, .val (.int x1), .val (.int x2), .val (.int x3), .val (.long (own_lushr (x0 &&& (9223372036854775807 : Int64)) (x1 &&& (63 : Int32)))), .second, .val (.int ((x2 &&& (2147483647 : Int32)) % (8 : Int32))), .val (.int (own_i2b x3)), .val (.ref b1), .val (.int (6 : Int32)), .unset] []))
      simp only [own_m0_191a, if_neg c184] at k22 ⊢
      exact k22
  show own_Fin _ _ _ _ _ _ _ (T17.setTop (mkF m 191 #[.val (.long x0), .second, .val (.int x1), .val (.int x2), .val (.int x3), .val (.long (own_lushr (x0 &&& (9223372036854775807 : Int64)) (x1 &&& (63 : Int32)))), .second, .val (.int ((x2 &&& (2147483647 : Int32)) % (8 : Int32))), .val (.int (own_i2b x3)), .val (.ref b1), .val (.int (own_m0_191a x0 x1)), .unset] []))
  refine own_of (fun _ kk => XS.lload X17.here hx rfl (hb hby at_191) rfl kk) ?_
  show own_Fin _ _ _ _ _ _ _ (T17.setTop (mkF m 193 #[.val (.long x0), .second, .val (.int x1), .val (.int x2), .val (.int x3), .val (.long (own_lushr (x0 &&& (9223372036854775807 : Int64)) (x1 &&& (63 : Int32)))), .second, .val (.int ((x2 &&& (2147483647 : Int32)) % (8 : Int32))), .val (.int (own_i2b x3)), .val (.ref b1), .val (.int (own_m0_191a x0 x1)), .unset] [(.long (own_lushr (x0 &&& (9223372036854775807 : Int64)) (x1 &&& (63 : Int32))))]))
  refine own_of (fun _ kk => XS.bipush X17.here hx rfl (hb hby at_193) kk) ?_
  show own_Fin _ _ _ _ _ _ _ (T17.setTop (mkF m 195 #[.val (.long x0), .second, .val (.int x1), .val (.int x2), .val (.int x3), .val (.long (own_lushr (x0 &&& (9223372036854775807 : Int64)) (x1 &&& (63 : Int32)))), .second, .val (.int ((x2 &&& (2147483647 : Int32)) % (8 : Int32))), .val (.int (own_i2b x3)), .val (.ref b1), .val (.int (own_m0_191a x0 x1)), .unset] [(.int (42 : Int32)), (.long (own_lushr (x0 &&& (9223372036854775807 : Int64)) (x1 &&& (63 : Int32))))]))
  refine own_of (fun _ kk => XS.lushr X17.here hx rfl (hb hby at_195) rfl kk) ?_
  show own_Fin _ _ _ _ _ _ _ (T17.setTop (mkF m 196 #[.val (.long x0), .second, .val (.int x1), .val (.int x2), .val (.int x3), .val (.long (own_lushr (x0 &&& (9223372036854775807 : Int64)) (x1 &&& (63 : Int32)))), .second, .val (.int ((x2 &&& (2147483647 : Int32)) % (8 : Int32))), .val (.int (own_i2b x3)), .val (.ref b1), .val (.int (own_m0_191a x0 x1)), .unset] [(.long (own_lushr (own_lushr (x0 &&& (9223372036854775807 : Int64)) (x1 &&& (63 : Int32))) (42 : Int32)))]))
  refine own_of (fun _ kk => XS.lconst X17.here hx rfl (hb hby at_196) kk) ?_
  show own_Fin _ _ _ _ _ _ _ (T17.setTop (mkF m 197 #[.val (.long x0), .second, .val (.int x1), .val (.int x2), .val (.int x3), .val (.long (own_lushr (x0 &&& (9223372036854775807 : Int64)) (x1 &&& (63 : Int32)))), .second, .val (.int ((x2 &&& (2147483647 : Int32)) % (8 : Int32))), .val (.int (own_i2b x3)), .val (.ref b1), .val (.int (own_m0_191a x0 x1)), .unset] [(.long (0 : Int64)), (.long (own_lushr (own_lushr (x0 &&& (9223372036854775807 : Int64)) (x1 &&& (63 : Int32))) (42 : Int32)))]))
  refine own_of (fun _ kk => XS.lcmp X17.here hx rfl (hb hby at_197) rfl kk) ?_
  show own_Fin _ _ _ _ _ _ _ (T17.setTop (mkF m 198 #[.val (.long x0), .second, .val (.int x1), .val (.int x2), .val (.int x3), .val (.long (own_lushr (x0 &&& (9223372036854775807 : Int64)) (x1 &&& (63 : Int32)))), .second, .val (.int ((x2 &&& (2147483647 : Int32)) % (8 : Int32))), .val (.int (own_i2b x3)), .val (.ref b1), .val (.int (own_m0_191a x0 x1)), .unset] [(.int (lcmpW (own_lushr (own_lushr (x0 &&& (9223372036854775807 : Int64)) (x1 &&& (63 : Int32))) (42 : Int32)) (0 : Int64)))]))
  suffices k23 : own_Fin _ _ _ _ _ _ _ (T17.setTop (mkF m 205 #[.val (.long x0), .second, .val (.int x1), .val (.int x2), .val (.int x3), .val (.long (own_lushr (x0 &&& (9223372036854775807 : Int64)) (x1 &&& (63 : Int32)))), .second, .val (.int ((x2 &&& (2147483647 : Int32)) % (8 : Int32))), .val (.int (own_i2b x3)), .val (.ref b1), .val (.int (own_m0_205a x0 x1)), .unset] [])) by
    by_cases c198 : (own_lushr (own_lushr (x0 &&& (9223372036854775807 : Int64)) (x1 &&& (63 : Int32))) (42 : Int32)) = (0 : Int64)
    · refine own_of (fun _ kk => XS.ifYes X17.here hx rfl (pc0 := 198) (pc' := 205) rfl (hb hby at_198) rfl ((if0 _ _).trans (teq ((lw_eq _ _).mpr c198)).1) (by decide) (by decide) kk) ?_
      show own_Fin _ _ _ _ _ _ _ (T17.setTop (mkF m 205 #[.val (.long x0), .second, .val (.int x1), .val (.int x2), .val (.int x3), .val (.long (own_lushr (x0 &&& (9223372036854775807 : Int64)) (x1 &&& (63 : Int32)))), .second, .val (.int ((x2 &&& (2147483647 : Int32)) % (8 : Int32))), .val (.int (own_i2b x3)), .val (.ref b1), .val (.int (own_m0_191a x0 x1)), .unset] []))
      simp only [own_m0_205a, if_pos c198] at k23 ⊢
      exact k23
    · refine own_of (fun _ kk => XS.ifNo X17.here hx rfl (hb hby at_198) rfl ((if0 _ _).trans (feq (mt (lw_eq _ _).mp c198)).1) kk) ?_
      show own_Fin _ _ _ _ _ _ _ (T17.setTop (mkF m 201 #[.val (.long x0), .second, .val (.int x1), .val (.int x2), .val (.int x3), .val (.long (own_lushr (x0 &&& (9223372036854775807 : Int64)) (x1 &&& (63 : Int32)))), .second, .val (.int ((x2 &&& (2147483647 : Int32)) % (8 : Int32))), .val (.int (own_i2b x3)), .val (.ref b1), .val (.int (own_m0_191a x0 x1)), .unset] []))
      refine own_of (fun _ kk => XS.bipush X17.here hx rfl (hb hby at_201) kk) ?_
      show own_Fin _ _ _ _ _ _ _ (T17.setTop (mkF m 203 #[.val (.long x0), .second, .val (.int x1), .val (.int x2), .val (.int x3), .val (.long (own_lushr (x0 &&& (9223372036854775807 : Int64)) (x1 &&& (63 : Int32)))), .second, .val (.int ((x2 &&& (2147483647 : Int32)) % (8 : Int32))), .val (.int (own_i2b x3)), .val (.ref b1), .val (.int (own_m0_191a x0 x1)), .unset] [(.int (7 : Int32))]))
      refine own_of (fun _ kk => XS.istore X17.here hx rfl (hb hby at_203) rfl (l' := #[.val (.long x0), .second, .val (.int x1), .val (.int x2), .val (.int x3), .val (.long (own_lushr (x0 &&& (9223372036854775807 : Int64)) (x1 &&& (63 : Int32)))), .second, .val (.int ((x2 &&& (2147483647 : Int32)) % (8 : Int32))), .val (.int (own_i2b x3)), .val (.ref b1), .val (.int (7 : Int32)), .unset]) rfl kk) ?_
      show own_Fin _ _ _ _ _ _ _ (T17.setTop (mkF m 205 #[.val (.long x0), .second, .val (.int x1), .val (.int x2), .val (.int x3), .val (.long (own_lushr (x0 &&& (9223372036854775807 : Int64)) (x1 &&& (63 : Int32)))), .second, .val (.int ((x2 &&& (2147483647 : Int32)) % (8 : Int32))), .val (.int (own_i2b x3)), .val (.ref b1), .val (.int (7 : Int32)), .unset] []))
      simp only [own_m0_205a, if_neg c198] at k23 ⊢
      exact k23
  show own_Fin _ _ _ _ _ _ _ (T17.setTop (mkF m 205 #[.val (.long x0), .second, .val (.int x1), .val (.int x2), .val (.int x3), .val (.long (own_lushr (x0 &&& (9223372036854775807 : Int64)) (x1 &&& (63 : Int32)))), .second, .val (.int ((x2 &&& (2147483647 : Int32)) % (8 : Int32))), .val (.int (own_i2b x3)), .val (.ref b1), .val (.int (own_m0_205a x0 x1)), .unset] []))
  refine own_of (fun _ kk => XS.lload X17.here hx rfl (hb hby at_205) rfl kk) ?_
  show own_Fin _ _ _ _ _ _ _ (T17.setTop (mkF m 207 #[.val (.long x0), .second, .val (.int x1), .val (.int x2), .val (.int x3), .val (.long (own_lushr (x0 &&& (9223372036854775807 : Int64)) (x1 &&& (63 : Int32)))), .second, .val (.int ((x2 &&& (2147483647 : Int32)) % (8 : Int32))), .val (.int (own_i2b x3)), .val (.ref b1), .val (.int (own_m0_205a x0 x1)), .unset] [(.long (own_lushr (x0 &&& (9223372036854775807 : Int64)) (x1 &&& (63 : Int32))))]))
  refine own_of (fun _ kk => XS.bipush X17.here hx rfl (hb hby at_207) kk) ?_
  show own_Fin _ _ _ _ _ _ _ (T17.setTop (mkF m 209 #[.val (.long x0), .second, .val (.int x1), .val (.int x2), .val (.int x3), .val (.long (own_lushr (x0 &&& (9223372036854775807 : Int64)) (x1 &&& (63 : Int32)))), .second, .val (.int ((x2 &&& (2147483647 : Int32)) % (8 : Int32))), .val (.int (own_i2b x3)), .val (.ref b1), .val (.int (own_m0_205a x0 x1)), .unset] [(.int (49 : Int32)), (.long (own_lushr (x0 &&& (9223372036854775807 : Int64)) (x1 &&& (63 : Int32))))]))
  refine own_of (fun _ kk => XS.lushr X17.here hx rfl (hb hby at_209) rfl kk) ?_
  show own_Fin _ _ _ _ _ _ _ (T17.setTop (mkF m 210 #[.val (.long x0), .second, .val (.int x1), .val (.int x2), .val (.int x3), .val (.long (own_lushr (x0 &&& (9223372036854775807 : Int64)) (x1 &&& (63 : Int32)))), .second, .val (.int ((x2 &&& (2147483647 : Int32)) % (8 : Int32))), .val (.int (own_i2b x3)), .val (.ref b1), .val (.int (own_m0_205a x0 x1)), .unset] [(.long (own_lushr (own_lushr (x0 &&& (9223372036854775807 : Int64)) (x1 &&& (63 : Int32))) (49 : Int32)))]))
  refine own_of (fun _ kk => XS.lconst X17.here hx rfl (hb hby at_210) kk) ?_
  show own_Fin _ _ _ _ _ _ _ (T17.setTop (mkF m 211 #[.val (.long x0), .second, .val (.int x1), .val (.int x2), .val (.int x3), .val (.long (own_lushr (x0 &&& (9223372036854775807 : Int64)) (x1 &&& (63 : Int32)))), .second, .val (.int ((x2 &&& (2147483647 : Int32)) % (8 : Int32))), .val (.int (own_i2b x3)), .val (.ref b1), .val (.int (own_m0_205a x0 x1)), .unset] [(.long (0 : Int64)), (.long (own_lushr (own_lushr (x0 &&& (9223372036854775807 : Int64)) (x1 &&& (63 : Int32))) (49 : Int32)))]))
  refine own_of (fun _ kk => XS.lcmp X17.here hx rfl (hb hby at_211) rfl kk) ?_
  show own_Fin _ _ _ _ _ _ _ (T17.setTop (mkF m 212 #[.val (.long x0), .second, .val (.int x1), .val (.int x2), .val (.int x3), .val (.long (own_lushr (x0 &&& (9223372036854775807 : Int64)) (x1 &&& (63 : Int32)))), .second, .val (.int ((x2 &&& (2147483647 : Int32)) % (8 : Int32))), .val (.int (own_i2b x3)), .val (.ref b1), .val (.int (own_m0_205a x0 x1)), .unset] [(.int (lcmpW (own_lushr (own_lushr (x0 &&& (9223372036854775807 : Int64)) (x1 &&& (63 : Int32))) (49 : Int32)) (0 : Int64)))]))
  suffices k24 : own_Fin _ _ _ _ _ _ _ (T17.setTop (mkF m 219 #[.val (.long x0), .second, .val (.int x1), .val (.int x2), .val (.int x3), .val (.long (own_lushr (x0 &&& (9223372036854775807 : Int64)) (x1 &&& (63 : Int32)))), .second, .val (.int ((x2 &&& (2147483647 : Int32)) % (8 : Int32))), .val (.int (own_i2b x3)), .val (.ref b1), .val (.int (own_m0_219a x0 x1)), .unset] [])) by
    by_cases c212 : (own_lushr (own_lushr (x0 &&& (9223372036854775807 : Int64)) (x1 &&& (63 : Int32))) (49 : Int32)) = (0 : Int64)
    · refine own_of (fun _ kk => XS.ifYes X17.here hx rfl (pc0 := 212) (pc' := 219) rfl (hb hby at_212) rfl ((if0 _ _).trans (teq ((lw_eq _ _).mpr c212)).1) (by decide) (by decide) kk) ?_
      show own_Fin _ _ _ _ _ _ _ (T17.setTop (mkF m 219 #[.val (.long x0), .second, .val (.int x1), .val (.int x2), .val (.int x3), .val (.long (own_lushr (x0 &&& (9223372036854775807 : Int64)) (x1 &&& (63 : Int32)))), .second, .val (.int ((x2 &&& (2147483647 : Int32)) % (8 : Int32))), .val (.int (own_i2b x3)), .val (.ref b1), .val (.int (own_m0_205a x0 x1)), .unset] []))
      simp only [own_m0_219a, if_pos c212] at k24 ⊢
      exact k24
    · refine own_of (fun _ kk => XS.ifNo X17.here hx rfl (hb hby at_212) rfl ((if0 _ _).trans (feq (mt (lw_eq _ _).mp c212)).1) kk) ?_
      show own_Fin _ _ _ _ _ _ _ (T17.setTop (mkF m 215 #[.val (.long x0), .second, .val (.int x1), .val (.int x2), .val (.int x3), .val (.long (own_lushr (x0 &&& (9223372036854775807 : Int64)) (x1 &&& (63 : Int32)))), .second, .val (.int ((x2 &&& (2147483647 : Int32)) % (8 : Int32))), .val (.int (own_i2b x3)), .val (.ref b1), .val (.int (own_m0_205a x0 x1)), .unset] []))
      refine own_of (fun _ kk => XS.bipush X17.here hx rfl (hb hby at_215) kk) ?_
      show own_Fin _ _ _ _ _ _ _ (T17.setTop (mkF m 217 #[.val (.long x0), .second, .val (.int x1), .val (.int x2), .val (.int x3), .val (.long (own_lushr (x0 &&& (9223372036854775807 : Int64)) (x1 &&& (63 : Int32)))), .second, .val (.int ((x2 &&& (2147483647 : Int32)) % (8 : Int32))), .val (.int (own_i2b x3)), .val (.ref b1), .val (.int (own_m0_205a x0 x1)), .unset] [(.int (8 : Int32))]))
      refine own_of (fun _ kk => XS.istore X17.here hx rfl (hb hby at_217) rfl (l' := #[.val (.long x0), .second, .val (.int x1), .val (.int x2), .val (.int x3), .val (.long (own_lushr (x0 &&& (9223372036854775807 : Int64)) (x1 &&& (63 : Int32)))), .second, .val (.int ((x2 &&& (2147483647 : Int32)) % (8 : Int32))), .val (.int (own_i2b x3)), .val (.ref b1), .val (.int (8 : Int32)), .unset]) rfl kk) ?_
      show own_Fin _ _ _ _ _ _ _ (T17.setTop (mkF m 219 #[.val (.long x0), .second, .val (.int x1), .val (.int x2), .val (.int x3), .val (.long (own_lushr (x0 &&& (9223372036854775807 : Int64)) (x1 &&& (63 : Int32)))), .second, .val (.int ((x2 &&& (2147483647 : Int32)) % (8 : Int32))), .val (.int (own_i2b x3)), .val (.ref b1), .val (.int (8 : Int32)), .unset] []))
      simp only [own_m0_219a, if_neg c212] at k24 ⊢
      exact k24
  show own_Fin _ _ _ _ _ _ _ (T17.setTop (mkF m 219 #[.val (.long x0), .second, .val (.int x1), .val (.int x2), .val (.int x3), .val (.long (own_lushr (x0 &&& (9223372036854775807 : Int64)) (x1 &&& (63 : Int32)))), .second, .val (.int ((x2 &&& (2147483647 : Int32)) % (8 : Int32))), .val (.int (own_i2b x3)), .val (.ref b1), .val (.int (own_m0_219a x0 x1)), .unset] []))
  refine own_of (fun _ kk => XS.lload X17.here hx rfl (hb hby at_219) rfl kk) ?_
  show own_Fin _ _ _ _ _ _ _ (T17.setTop (mkF m 221 #[.val (.long x0), .second, .val (.int x1), .val (.int x2), .val (.int x3), .val (.long (own_lushr (x0 &&& (9223372036854775807 : Int64)) (x1 &&& (63 : Int32)))), .second, .val (.int ((x2 &&& (2147483647 : Int32)) % (8 : Int32))), .val (.int (own_i2b x3)), .val (.ref b1), .val (.int (own_m0_219a x0 x1)), .unset] [(.long (own_lushr (x0 &&& (9223372036854775807 : Int64)) (x1 &&& (63 : Int32))))]))
  refine own_of (fun _ kk => XS.bipush X17.here hx rfl (hb hby at_221) kk) ?_
  show own_Fin _ _ _ _ _ _ _ (T17.setTop (mkF m 223 #[.val (.long x0), .second, .val (.int x1), .val (.int x2), .val (.int x3), .val (.long (own_lushr (x0 &&& (9223372036854775807 : Int64)) (x1 &&& (63 : Int32)))), .second, .val (.int ((x2 &&& (2147483647 : Int32)) % (8 : Int32))), .val (.int (own_i2b x3)), .val (.ref b1), .val (.int (own_m0_219a x0 x1)), .unset] [(.int (56 : Int32)), (.long (own_lushr (x0 &&& (9223372036854775807 : Int64)) (x1 &&& (63 : Int32))))]))
  refine own_of (fun _ kk => XS.lushr X17.here hx rfl (hb hby at_223) rfl kk) ?_
  show own_Fin _ _ _ _ _ _ _ (T17.setTop (mkF m 224 #[.val (.long x0), .second, .val (.int x1), .val (.int x2), .val (.int x3), .val (.long (own_lushr (x0 &&& (9223372036854775807 : Int64)) (x1 &&& (63 : Int32)))), .second, .val (.int ((x2 &&& (2147483647 : Int32)) % (8 : Int32))), .val (.int (own_i2b x3)), .val (.ref b1), .val (.int (own_m0_219a x0 x1)), .unset] [(.long (own_lushr (own_lushr (x0 &&& (9223372036854775807 : Int64)) (x1 &&& (63 : Int32))) (56 : Int32)))]))
  refine own_of (fun _ kk => XS.lconst X17.here hx rfl (hb hby at_224) kk) ?_
  show own_Fin _ _ _ _ _ _ _ (T17.setTop (mkF m 225 #[.val (.long x0), .second, .val (.int x1), .val (.int x2), .val (.int x3), .val (.long (own_lushr (x0 &&& (9223372036854775807 : Int64)) (x1 &&& (63 : Int32)))), .second, .val (.int ((x2 &&& (2147483647 : Int32)) % (8 : Int32))), .val (.int (own_i2b x3)), .val (.ref b1), .val (.int (own_m0_219a x0 x1)), .unset] [(.long (0 : Int64)), (.long (own_lushr (own_lushr (x0 &&& (9223372036854775807 : Int64)) (x1 &&& (63 : Int32))) (56 : Int32)))]))
  refine own_of (fun _ kk => XS.lcmp X17.here hx rfl (hb hby at_225) rfl kk) ?_
  show own_Fin _ _ _ _ _ _ _ (T17.setTop (mkF m 226 #[.val (.long x0), .second, .val (.int x1), .val (.int x2), .val (.int x3), .val (.long (own_lushr (x0 &&& (9223372036854775807 : Int64)) (x1 &&& (63 : Int32)))), .second, .val (.int ((x2 &&& (2147483647 : Int32)) % (8 : Int32))), .val (.int (own_i2b x3)), .val (.ref b1), .val (.int (own_m0_219a x0 x1)), .unset] [(.int (lcmpW (own_lushr (own_lushr (x0 &&& (9223372036854775807 : Int64)) (x1 &&& (63 : Int32))) (56 : Int32)) (0 : Int64)))]))
  suffices k25 : own_Fin _ _ _ _ _ _ _ (T17.setTop (mkF m 233 #[.val (.long x0), .second, .val (.int x1), .val (.int x2), .val (.int x3), .val (.long (own_lushr (x0 &&& (9223372036854775807 : Int64)) (x1 &&& (63 : Int32)))), .second, .val (.int ((x2 &&& (2147483647 : Int32)) % (8 : Int32))), .val (.int (own_i2b x3)), .val (.ref b1), .val (.int (own_m0_233a x0 x1)), .unset] [])) by
    by_cases c226 : (own_lushr (own_lushr (x0 &&& (9223372036854775807 : Int64)) (x1 &&& (63 : Int32))) (56 : Int32)) = (0 : Int64)
    · refine own_of (fun _ kk => XS.ifYes X17.here hx rfl (pc0 := 226) (pc' := 233) rfl (hb hby at_226) rfl ((if0 _ _).trans (teq ((lw_eq _ _).mpr c226)).1) (by decide) (by decide) kk) ?_
      show own_Fin _ _ _ _ _ _ _ (T17.setTop (mkF m 233 #[.val (.long x0), .second, .val (.int x1), .val (.int x2), .val (.int x3), .val (.long (own_lushr (x0 &&& (9223372036854775807 : Int64)) (x1 &&& (63 : Int32)))), .second, .val (.int ((x2 &&& (2147483647 : Int32)) % (8 : Int32))), .val (.int (own_i2b x3)), .val (.ref b1), .val (.int (own_m0_219a x0 x1)), .unset] []))
      simp only [own_m0_233a, if_pos c226] at k25 ⊢
      exact k25
    · refine own_of (fun _ kk => XS.ifNo X17.here hx rfl (hb hby at_226) rfl ((if0 _ _).trans (feq (mt (lw_eq _ _).mp c226)).1) kk) ?_
      show own_Fin _ _ _ _ _ _ _ (T17.setTop (mkF m 229 #[.val (.long x0), .second, .val (.int x1), .val (.int x2), .val (.int x3), .val (.long (own_lushr (x0 &&& (9223372036854775807 : Int64)) (x1 &&& (63 : Int32)))), .second, .val (.int ((x2 &&& (2147483647 : Int32)) % (8 : Int32))), .val (.int (own_i2b x3)), .val (.ref b1), .val (.int (own_m0_219a x0 x1)), .unset] []))
      refine own_of (fun _ kk => XS.bipush X17.here hx rfl (hb hby at_229) kk) ?_
      show own_Fin _ _ _ _ _ _ _ (T17.setTop (mkF m 231 #[.val (.long x0), .second, .val (.int x1), .val (.int x2), .val (.int x3), .val (.long (own_lushr (x0 &&& (9223372036854775807 : Int64)) (x1 &&& (63 : Int32)))), .second, .val (.int ((x2 &&& (2147483647 : Int32)) % (8 : Int32))), .val (.int (own_i2b x3)), .val (.ref b1), .val (.int (own_m0_219a x0 x1)), .unset] [(.int (9 : Int32))]))
      refine own_of (fun _ kk => XS.istore X17.here hx rfl (hb hby at_231) rfl (l' := #[.val (.long x0), .second, .val (.int x1), .val (.int x2), .val (.int x3), .val (.long (own_lushr (x0 &&& (9223372036854775807 : Int64)) (x1 &&& (63 : Int32)))), .second, .val (.int ((x2 &&& (2147483647 : Int32)) % (8 : Int32))), .val (.int (own_i2b x3)), .val (.ref b1), .val (.int (9 : Int32)), .unset]) rfl kk) ?_
      show own_Fin _ _ _ _ _ _ _ (T17.setTop (mkF m 233 #[.val (.long x0), .second, .val (.int x1), .val (.int x2), .val (.int x3), .val (.long (own_lushr (x0 &&& (9223372036854775807 : Int64)) (x1 &&& (63 : Int32)))), .second, .val (.int ((x2 &&& (2147483647 : Int32)) % (8 : Int32))), .val (.int (own_i2b x3)), .val (.ref b1), .val (.int (9 : Int32)), .unset] []))
      simp only [own_m0_233a, if_neg c226] at k25 ⊢
      exact k25
  show own_Fin _ _ _ _ _ _ _ (T17.setTop (mkF m 233 #[.val (.long x0), .second, .val (.int x1), .val (.int x2), .val (.int x3), .val (.long (own_lushr (x0 &&& (9223372036854775807 : Int64)) (x1 &&& (63 : Int32)))), .second, .val (.int ((x2 &&& (2147483647 : Int32)) % (8 : Int32))), .val (.int (own_i2b x3)), .val (.ref b1), .val (.int (own_m0_233a x0 x1)), .unset] []))
  refine own_of (fun _ kk => XS.aload X17.here hx rfl (hb hby at_233) rfl rfl kk) ?_
  show own_Fin _ _ _ _ _ _ _ (T17.setTop (mkF m 235 #[.val (.long x0), .second, .val (.int x1), .val (.int x2), .val (.int x3), .val (.long (own_lushr (x0 &&& (9223372036854775807 : Int64)) (x1 &&& (63 : Int32)))), .second, .val (.int ((x2 &&& (2147483647 : Int32)) % (8 : Int32))), .val (.int (own_i2b x3)), .val (.ref b1), .val (.int (own_m0_233a x0 x1)), .unset] [(.ref b1)]))
  refine own_of (fun _ kk => XS.iload X17.here hx rfl (hb hby at_235) rfl kk) ?_
  show own_Fin _ _ _ _ _ _ _ (T17.setTop (mkF m 237 #[.val (.long x0), .second, .val (.int x1), .val (.int x2), .val (.int x3), .val (.long (own_lushr (x0 &&& (9223372036854775807 : Int64)) (x1 &&& (63 : Int32)))), .second, .val (.int ((x2 &&& (2147483647 : Int32)) % (8 : Int32))), .val (.int (own_i2b x3)), .val (.ref b1), .val (.int (own_m0_233a x0 x1)), .unset] [(.int ((x2 &&& (2147483647 : Int32)) % (8 : Int32))), (.ref b1)]))
  refine own_of (fun _ kk => XS.lload X17.here hx rfl (hb hby at_237) rfl kk) ?_
  show own_Fin _ _ _ _ _ _ _ (T17.setTop (mkF m 239 #[.val (.long x0), .second, .val (.int x1), .val (.int x2), .val (.int x3), .val (.long (own_lushr (x0 &&& (9223372036854775807 : Int64)) (x1 &&& (63 : Int32)))), .second, .val (.int ((x2 &&& (2147483647 : Int32)) % (8 : Int32))), .val (.int (own_i2b x3)), .val (.ref b1), .val (.int (own_m0_233a x0 x1)), .unset] [(.long (own_lushr (x0 &&& (9223372036854775807 : Int64)) (x1 &&& (63 : Int32)))), (.int ((x2 &&& (2147483647 : Int32)) % (8 : Int32))), (.ref b1)]))
  refine own_callS X17 hx hZ hown (hw _ (List.mem_of_getElem? (i := 3) rfl)) (hw _ (List.mem_of_getElem? (i := 4) rfl)) (hw _ (List.mem_of_getElem? (i := 5) rfl)) (hw _ (List.mem_of_getElem? (i := 6) rfl)) (by decide) e17 (argsL := [(.ref b1), (.int ((x2 &&& (2147483647 : Int32)) % (8 : Int32))), (.long (own_lushr (x0 &&& (9223372036854775807 : Int64)) (x1 &&& (63 : Int32))))]) (met1 l Z a0 hw b1 ((x2 &&& (2147483647 : Int32)) % (8 : Int32)) (own_lushr (x0 &&& (9223372036854775807 : Int64)) (x1 &&& (63 : Int32))) ((x2 &&& (2147483647 : Int32)) % (8 : Int32)).toInt.toNat 16 (fun _ => (own_i2b (own_i2b x3))) h17 n0 ZW17 (own_hv x0 x1) ge_b1 (by have := (own_at x2).2; omega) (by decide) (own_at x2).1 (A17.congr fun j hj => by rcases (show j = 0 ∨ j = 1 ∨ j = 2 ∨ j = 3 ∨ j = 4 ∨ j = 5 ∨ j = 6 ∨ j = 7 ∨ j = 8 ∨ j = 9 ∨ j = 10 ∨ j = 11 ∨ j = 12 ∨ j = 13 ∨ j = 14 ∨ j = 15 by omega) with rfl | rfl | rfl | rfl | rfl | rfl | rfl | rfl | rfl | rfl | rfl | rfl | rfl | rfl | rfl | rfl <;> rfl)) (W := 0) (by decide) (by decide) (by decide) (by decide) (by rw [hml]; rfl) pd_2 rfl (rest := []) rfl (Nat.le_of_eq rfl) (hb hby at_239) ?_
  intro v26 T26 h26 L26 X26 e26 q26
  obtain ⟨k, z, rfl, N26q, Z26, hk, hz, hcs, hce, A26⟩ := q26
  have N26 := Fr.app N17 N26q
  show own_Fin _ _ _ _ _ _ _ (T26.setTop (mkF m 242 #[.val (.long x0), .second, .val (.int x1), .val (.int x2), .val (.int x3), .val (.long (own_lushr (x0 &&& (9223372036854775807 : Int64)) (x1 &&& (63 : Int32)))), .second, .val (.int ((x2 &&& (2147483647 : Int32)) % (8 : Int32))), .val (.int (own_i2b x3)), .val (.ref b1), .val (.int (own_m0_233a x0 x1)), .unset] [(.int z)]))
  have hs := own_size x0 x1 k hk hcs hce
  refine own_of (fun _ kk => XS.istore X26.here hx rfl (hb hby at_242) rfl (l' := #[.val (.long x0), .second, .val (.int x1), .val (.int x2), .val (.int x3), .val (.long (own_lushr (x0 &&& (9223372036854775807 : Int64)) (x1 &&& (63 : Int32)))), .second, .val (.int ((x2 &&& (2147483647 : Int32)) % (8 : Int32))), .val (.int (own_i2b x3)), .val (.ref b1), .val (.int (own_m0_233a x0 x1)), .val (.int z)]) rfl kk) ?_
  show own_Fin _ _ _ _ _ _ _ (T26.setTop (mkF m 244 #[.val (.long x0), .second, .val (.int x1), .val (.int x2), .val (.int x3), .val (.long (own_lushr (x0 &&& (9223372036854775807 : Int64)) (x1 &&& (63 : Int32)))), .second, .val (.int ((x2 &&& (2147483647 : Int32)) % (8 : Int32))), .val (.int (own_i2b x3)), .val (.ref b1), .val (.int (own_m0_233a x0 x1)), .val (.int z)] []))
  refine own_of (fun _ kk => XS.iload X26.here hx rfl (hb hby at_244) rfl kk) ?_
  show own_Fin _ _ _ _ _ _ _ (T26.setTop (mkF m 246 #[.val (.long x0), .second, .val (.int x1), .val (.int x2), .val (.int x3), .val (.long (own_lushr (x0 &&& (9223372036854775807 : Int64)) (x1 &&& (63 : Int32)))), .second, .val (.int ((x2 &&& (2147483647 : Int32)) % (8 : Int32))), .val (.int (own_i2b x3)), .val (.ref b1), .val (.int (own_m0_233a x0 x1)), .val (.int z)] [(.int z)]))
  refine own_of (fun _ kk => XS.iload X26.here hx rfl (hb hby at_246) rfl kk) ?_
  show own_Fin _ _ _ _ _ _ _ (T26.setTop (mkF m 248 #[.val (.long x0), .second, .val (.int x1), .val (.int x2), .val (.int x3), .val (.long (own_lushr (x0 &&& (9223372036854775807 : Int64)) (x1 &&& (63 : Int32)))), .second, .val (.int ((x2 &&& (2147483647 : Int32)) % (8 : Int32))), .val (.int (own_i2b x3)), .val (.ref b1), .val (.int (own_m0_233a x0 x1)), .val (.int z)] [(.int ((x2 &&& (2147483647 : Int32)) % (8 : Int32))), (.int z)]))
  refine own_of (fun _ kk => XS.iload X26.here hx rfl (hb hby at_248) rfl kk) ?_
  show own_Fin _ _ _ _ _ _ _ (T26.setTop (mkF m 250 #[.val (.long x0), .second, .val (.int x1), .val (.int x2), .val (.int x3), .val (.long (own_lushr (x0 &&& (9223372036854775807 : Int64)) (x1 &&& (63 : Int32)))), .second, .val (.int ((x2 &&& (2147483647 : Int32)) % (8 : Int32))), .val (.int (own_i2b x3)), .val (.ref b1), .val (.int (own_m0_233a x0 x1)), .val (.int z)] [(.int (own_m0_233a x0 x1)), (.int ((x2 &&& (2147483647 : Int32)) % (8 : Int32))), (.int z)]))
  refine own_of (fun _ kk => XS.iadd X26.here hx rfl (hb hby at_250) rfl kk) ?_
  show own_Fin _ _ _ _ _ _ _ (T26.setTop (mkF m 251 #[.val (.long x0), .second, .val (.int x1), .val (.int x2), .val (.int x3), .val (.long (own_lushr (x0 &&& (9223372036854775807 : Int64)) (x1 &&& (63 : Int32)))), .second, .val (.int ((x2 &&& (2147483647 : Int32)) % (8 : Int32))), .val (.int (own_i2b x3)), .val (.ref b1), .val (.int (own_m0_233a x0 x1)), .val (.int z)] [(.int (((x2 &&& (2147483647 : Int32)) % (8 : Int32)) + (own_m0_233a x0 x1))), (.int z)]))
  refine own_of (fun _ kk => XS.icmpNo X26.here hx rfl (hb hby at_251) rfl (teq (own_sum z ((x2 &&& (2147483647 : Int32)) % (8 : Int32)) (own_m0_233a x0 x1) ((x2 &&& (2147483647 : Int32)) % (8 : Int32)).toInt.toNat k (own_at x2).1 (own_at x2).2 hk hz hs)).2 kk) ?_
  show own_Fin _ _ _ _ _ _ _ (T26.setTop (mkF m 254 #[.val (.long x0), .second, .val (.int x1), .val (.int x2), .val (.int x3), .val (.long (own_lushr (x0 &&& (9223372036854775807 : Int64)) (x1 &&& (63 : Int32)))), .second, .val (.int ((x2 &&& (2147483647 : Int32)) % (8 : Int32))), .val (.int (own_i2b x3)), .val (.ref b1), .val (.int (own_m0_233a x0 x1)), .val (.int z)] []))
  refine own_of (fun _ kk => XS.aload X26.here hx rfl (hb hby at_254) rfl rfl kk) ?_
  show own_Fin _ _ _ _ _ _ _ (T26.setTop (mkF m 256 #[.val (.long x0), .second, .val (.int x1), .val (.int x2), .val (.int x3), .val (.long (own_lushr (x0 &&& (9223372036854775807 : Int64)) (x1 &&& (63 : Int32)))), .second, .val (.int ((x2 &&& (2147483647 : Int32)) % (8 : Int32))), .val (.int (own_i2b x3)), .val (.ref b1), .val (.int (own_m0_233a x0 x1)), .val (.int z)] [(.ref b1)]))
  refine own_of (fun _ kk => XS.iconst X26.here hx rfl (hb hby at_256) kk) ?_
  show own_Fin _ _ _ _ _ _ _ (T26.setTop (mkF m 257 #[.val (.long x0), .second, .val (.int x1), .val (.int x2), .val (.int x3), .val (.long (own_lushr (x0 &&& (9223372036854775807 : Int64)) (x1 &&& (63 : Int32)))), .second, .val (.int ((x2 &&& (2147483647 : Int32)) % (8 : Int32))), .val (.int (own_i2b x3)), .val (.ref b1), .val (.int (own_m0_233a x0 x1)), .val (.int z)] [(.int (0 : Int32)), (.ref b1)]))
  refine own_of (fun _ kk => XS.iload X26.here hx rfl (hb hby at_257) rfl kk) ?_
  show own_Fin _ _ _ _ _ _ _ (T26.setTop (mkF m 259 #[.val (.long x0), .second, .val (.int x1), .val (.int x2), .val (.int x3), .val (.long (own_lushr (x0 &&& (9223372036854775807 : Int64)) (x1 &&& (63 : Int32)))), .second, .val (.int ((x2 &&& (2147483647 : Int32)) % (8 : Int32))), .val (.int (own_i2b x3)), .val (.ref b1), .val (.int (own_m0_233a x0 x1)), .val (.int z)] [(.int ((x2 &&& (2147483647 : Int32)) % (8 : Int32))), (.int (0 : Int32)), (.ref b1)]))
  refine own_of (fun _ kk => XS.lload X26.here hx rfl (hb hby at_259) rfl kk) ?_
  show own_Fin _ _ _ _ _ _ _ (T26.setTop (mkF m 261 #[.val (.long x0), .second, .val (.int x1), .val (.int x2), .val (.int x3), .val (.long (own_lushr (x0 &&& (9223372036854775807 : Int64)) (x1 &&& (63 : Int32)))), .second, .val (.int ((x2 &&& (2147483647 : Int32)) % (8 : Int32))), .val (.int (own_i2b x3)), .val (.ref b1), .val (.int (own_m0_233a x0 x1)), .val (.int z)] [(.long (own_lushr (x0 &&& (9223372036854775807 : Int64)) (x1 &&& (63 : Int32)))), (.int ((x2 &&& (2147483647 : Int32)) % (8 : Int32))), (.int (0 : Int32)), (.ref b1)]))
  refine own_of (fun _ kk => XS.iload X26.here hx rfl (hb hby at_261) rfl kk) ?_
  show own_Fin _ _ _ _ _ _ _ (T26.setTop (mkF m 263 #[.val (.long x0), .second, .val (.int x1), .val (.int x2), .val (.int x3), .val (.long (own_lushr (x0 &&& (9223372036854775807 : Int64)) (x1 &&& (63 : Int32)))), .second, .val (.int ((x2 &&& (2147483647 : Int32)) % (8 : Int32))), .val (.int (own_i2b x3)), .val (.ref b1), .val (.int (own_m0_233a x0 x1)), .val (.int z)] [(.int (own_m0_233a x0 x1)), (.long (own_lushr (x0 &&& (9223372036854775807 : Int64)) (x1 &&& (63 : Int32)))), (.int ((x2 &&& (2147483647 : Int32)) % (8 : Int32))), (.int (0 : Int32)), (.ref b1)]))
  refine own_of (fun _ kk => XS.iload X26.here hx rfl (hb hby at_263) rfl kk) ?_
  show own_Fin _ _ _ _ _ _ _ (T26.setTop (mkF m 265 #[.val (.long x0), .second, .val (.int x1), .val (.int x2), .val (.int x3), .val (.long (own_lushr (x0 &&& (9223372036854775807 : Int64)) (x1 &&& (63 : Int32)))), .second, .val (.int ((x2 &&& (2147483647 : Int32)) % (8 : Int32))), .val (.int (own_i2b x3)), .val (.ref b1), .val (.int (own_m0_233a x0 x1)), .val (.int z)] [(.int (own_i2b x3)), (.int (own_m0_233a x0 x1)), (.long (own_lushr (x0 &&& (9223372036854775807 : Int64)) (x1 &&& (63 : Int32)))), (.int ((x2 &&& (2147483647 : Int32)) % (8 : Int32))), (.int (0 : Int32)), (.ref b1)]))
  refine own_callS X26 hx hZ hown (hw _ (List.mem_of_getElem? (i := 8) rfl)) (hw _ (List.mem_of_getElem? (i := 9) rfl)) (hw _ (List.mem_of_getElem? (i := 10) rfl)) (hw _ (List.mem_of_getElem? (i := 11) rfl)) (by decide) e26 (argsL := [(.ref b1), (.int (0 : Int32)), (.int ((x2 &&& (2147483647 : Int32)) % (8 : Int32))), (.long (own_lushr (x0 &&& (9223372036854775807 : Int64)) (x1 &&& (63 : Int32)))), (.int (own_m0_233a x0 x1)), (.int (own_i2b x3))]) (met2 l Z a0 hw b1 (0 : Int32) ((x2 &&& (2147483647 : Int32)) % (8 : Int32)) (own_lushr (x0 &&& (9223372036854775807 : Int64)) (x1 &&& (63 : Int32))) (own_m0_233a x0 x1) (own_i2b x3) 16 (own_w2 ((x2 &&& (2147483647 : Int32)) % (8 : Int32)).toInt.toNat (own_lushr (x0 &&& (9223372036854775807 : Int64)) (x1 &&& (63 : Int32))) (fun _ => (own_i2b (own_i2b x3))) k) 0 ((own_w2 ((x2 &&& (2147483647 : Int32)) % (8 : Int32)).toInt.toNat (own_lushr (x0 &&& (9223372036854775807 : Int64)) (x1 &&& (63 : Int32))) (fun _ => (own_i2b (own_i2b x3))) k) 0) h26 n0 Z26 A26 (by decide) (by decide) rfl (own_key (own_lushr (x0 &&& (9223372036854775807 : Int64)) (x1 &&& (63 : Int32))) (own_hv x0 x1) ((x2 &&& (2147483647 : Int32)) % (8 : Int32)) (own_m0_233a x0 x1) (own_i2b x3) (0 : Int32) ((x2 &&& (2147483647 : Int32)) % (8 : Int32)).toInt.toNat k 0 (fun _ => (own_i2b (own_i2b x3))) (own_at x2).1 (own_at x2).2 hk hs (by decide) (by decide) hce rfl)) (W := 0) (by decide) (by decide) (by decide) (by decide) (by rw [hml]; rfl) pd_1 rfl (rest := []) rfl (Nat.le_of_eq rfl) (hb hby at_265) ?_
  intro v27 T27 h27 L27 X27 e27 q27
  obtain ⟨rfl, qh27, rfl⟩ := q27
  rw [qh27] at e27
  have N27 := Fr.app N26 (Fr.nil n0)
  show own_Fin _ _ _ _ _ _ _ (T27.setTop (mkF m 268 #[.val (.long x0), .second, .val (.int x1), .val (.int x2), .val (.int x3), .val (.long (own_lushr (x0 &&& (9223372036854775807 : Int64)) (x1 &&& (63 : Int32)))), .second, .val (.int ((x2 &&& (2147483647 : Int32)) % (8 : Int32))), .val (.int (own_i2b x3)), .val (.ref b1), .val (.int (own_m0_233a x0 x1)), .val (.int z)] [(.int (1 : Int32))]))
  refine own_of (fun _ kk => XS.ifNo X27.here hx rfl (hb hby at_268) rfl ((if0 _ _).trans (feq (by decide : ¬ ((1 : Int32) = (0 : Int32)))).1) kk) ?_
  show own_Fin _ _ _ _ _ _ _ (T27.setTop (mkF m 271 #[.val (.long x0), .second, .val (.int x1), .val (.int x2), .val (.int x3), .val (.long (own_lushr (x0 &&& (9223372036854775807 : Int64)) (x1 &&& (63 : Int32)))), .second, .val (.int ((x2 &&& (2147483647 : Int32)) % (8 : Int32))), .val (.int (own_i2b x3)), .val (.ref b1), .val (.int (own_m0_233a x0 x1)), .val (.int z)] []))
  refine own_of (fun _ kk => XS.aload X27.here hx rfl (hb hby at_271) rfl rfl kk) ?_
  show own_Fin _ _ _ _ _ _ _ (T27.setTop (mkF m 273 #[.val (.long x0), .second, .val (.int x1), .val (.int x2), .val (.int x3), .val (.long (own_lushr (x0 &&& (9223372036854775807 : Int64)) (x1 &&& (63 : Int32)))), .second, .val (.int ((x2 &&& (2147483647 : Int32)) % (8 : Int32))), .val (.int (own_i2b x3)), .val (.ref b1), .val (.int (own_m0_233a x0 x1)), .val (.int z)] [(.ref b1)]))
  refine own_of (fun _ kk => XS.iconst X27.here hx rfl (hb hby at_273) kk) ?_
  show own_Fin _ _ _ _ _ _ _ (T27.setTop (mkF m 274 #[.val (.long x0), .second, .val (.int x1), .val (.int x2), .val (.int x3), .val (.long (own_lushr (x0 &&& (9223372036854775807 : Int64)) (x1 &&& (63 : Int32)))), .second, .val (.int ((x2 &&& (2147483647 : Int32)) % (8 : Int32))), .val (.int (own_i2b x3)), .val (.ref b1), .val (.int (own_m0_233a x0 x1)), .val (.int z)] [(.int (1 : Int32)), (.ref b1)]))
  refine own_of (fun _ kk => XS.iload X27.here hx rfl (hb hby at_274) rfl kk) ?_
  show own_Fin _ _ _ _ _ _ _ (T27.setTop (mkF m 276 #[.val (.long x0), .second, .val (.int x1), .val (.int x2), .val (.int x3), .val (.long (own_lushr (x0 &&& (9223372036854775807 : Int64)) (x1 &&& (63 : Int32)))), .second, .val (.int ((x2 &&& (2147483647 : Int32)) % (8 : Int32))), .val (.int (own_i2b x3)), .val (.ref b1), .val (.int (own_m0_233a x0 x1)), .val (.int z)] [(.int ((x2 &&& (2147483647 : Int32)) % (8 : Int32))), (.int (1 : Int32)), (.ref b1)]))
  refine own_of (fun _ kk => XS.lload X27.here hx rfl (hb hby at_276) rfl kk) ?_
  show own_Fin _ _ _ _ _ _ _ (T27.setTop (mkF m 278 #[.val (.long x0), .second, .val (.int x1), .val (.int x2), .val (.int x3), .val (.long (own_lushr (x0 &&& (9223372036854775807 : Int64)) (x1 &&& (63 : Int32)))), .second, .val (.int ((x2 &&& (2147483647 : Int32)) % (8 : Int32))), .val (.int (own_i2b x3)), .val (.ref b1), .val (.int (own_m0_233a x0 x1)), .val (.int z)] [(.long (own_lushr (x0 &&& (9223372036854775807 : Int64)) (x1 &&& (63 : Int32)))), (.int ((x2 &&& (2147483647 : Int32)) % (8 : Int32))), (.int (1 : Int32)), (.ref b1)]))
  refine own_of (fun _ kk => XS.iload X27.here hx rfl (hb hby at_278) rfl kk) ?_
  show own_Fin _ _ _ _ _ _ _ (T27.setTop (mkF m 280 #[.val (.long x0), .second, .val (.int x1), .val (.int x2), .val (.int x3), .val (.long (own_lushr (x0 &&& (9223372036854775807 : Int64)) (x1 &&& (63 : Int32)))), .second, .val (.int ((x2 &&& (2147483647 : Int32)) % (8 : Int32))), .val (.int (own_i2b x3)), .val (.ref b1), .val (.int (own_m0_233a x0 x1)), .val (.int z)] [(.int (own_m0_233a x0 x1)), (.long (own_lushr (x0 &&& (9223372036854775807 : Int64)) (x1 &&& (63 : Int32)))), (.int ((x2 &&& (2147483647 : Int32)) % (8 : Int32))), (.int (1 : Int32)), (.ref b1)]))
  refine own_of (fun _ kk => XS.iload X27.here hx rfl (hb hby at_280) rfl kk) ?_
  show own_Fin _ _ _ _ _ _ _ (T27.setTop (mkF m 282 #[.val (.long x0), .second, .val (.int x1), .val (.int x2), .val (.int x3), .val (.long (own_lushr (x0 &&& (9223372036854775807 : Int64)) (x1 &&& (63 : Int32)))), .second, .val (.int ((x2 &&& (2147483647 : Int32)) % (8 : Int32))), .val (.int (own_i2b x3)), .val (.ref b1), .val (.int (own_m0_233a x0 x1)), .val (.int z)] [(.int (own_i2b x3)), (.int (own_m0_233a x0 x1)), (.long (own_lushr (x0 &&& (9223372036854775807 : Int64)) (x1 &&& (63 : Int32)))), (.int ((x2 &&& (2147483647 : Int32)) % (8 : Int32))), (.int (1 : Int32)), (.ref b1)]))
  refine own_callS X27 hx hZ hown (hw _ (List.mem_of_getElem? (i := 8) rfl)) (hw _ (List.mem_of_getElem? (i := 9) rfl)) (hw _ (List.mem_of_getElem? (i := 10) rfl)) (hw _ (List.mem_of_getElem? (i := 11) rfl)) (by decide) e27 (argsL := [(.ref b1), (.int (1 : Int32)), (.int ((x2 &&& (2147483647 : Int32)) % (8 : Int32))), (.long (own_lushr (x0 &&& (9223372036854775807 : Int64)) (x1 &&& (63 : Int32)))), (.int (own_m0_233a x0 x1)), (.int (own_i2b x3))]) (met2 l Z a0 hw b1 (1 : Int32) ((x2 &&& (2147483647 : Int32)) % (8 : Int32)) (own_lushr (x0 &&& (9223372036854775807 : Int64)) (x1 &&& (63 : Int32))) (own_m0_233a x0 x1) (own_i2b x3) 16 (own_w2 ((x2 &&& (2147483647 : Int32)) % (8 : Int32)).toInt.toNat (own_lushr (x0 &&& (9223372036854775807 : Int64)) (x1 &&& (63 : Int32))) (fun _ => (own_i2b (own_i2b x3))) k) 1 ((own_w2 ((x2 &&& (2147483647 : Int32)) % (8 : Int32)).toInt.toNat (own_lushr (x0 &&& (9223372036854775807 : Int64)) (x1 &&& (63 : Int32))) (fun _ => (own_i2b (own_i2b x3))) k) 1) h26 n0 Z26 A26 (by decide) (by decide) rfl (own_key (own_lushr (x0 &&& (9223372036854775807 : Int64)) (x1 &&& (63 : Int32))) (own_hv x0 x1) ((x2 &&& (2147483647 : Int32)) % (8 : Int32)) (own_m0_233a x0 x1) (own_i2b x3) (1 : Int32) ((x2 &&& (2147483647 : Int32)) % (8 : Int32)).toInt.toNat k 1 (fun _ => (own_i2b (own_i2b x3))) (own_at x2).1 (own_at x2).2 hk hs (by decide) (by decide) hce rfl)) (W := 0) (by decide) (by decide) (by decide) (by decide) (by rw [hml]; rfl) pd_1 rfl (rest := []) rfl (Nat.le_of_eq rfl) (hb hby at_282) ?_
  intro v28 T28 h28 L28 X28 e28 q28
  obtain ⟨rfl, qh28, rfl⟩ := q28
  rw [qh28] at e28
  have N28 := Fr.app N27 (Fr.nil n0)
  show own_Fin _ _ _ _ _ _ _ (T28.setTop (mkF m 285 #[.val (.long x0), .second, .val (.int x1), .val (.int x2), .val (.int x3), .val (.long (own_lushr (x0 &&& (9223372036854775807 : Int64)) (x1 &&& (63 : Int32)))), .second, .val (.int ((x2 &&& (2147483647 : Int32)) % (8 : Int32))), .val (.int (own_i2b x3)), .val (.ref b1), .val (.int (own_m0_233a x0 x1)), .val (.int z)] [(.int (1 : Int32))]))
  refine own_of (fun _ kk => XS.ifNo X28.here hx rfl (hb hby at_285) rfl ((if0 _ _).trans (feq (by decide : ¬ ((1 : Int32) = (0 : Int32)))).1) kk) ?_
  show own_Fin _ _ _ _ _ _ _ (T28.setTop (mkF m 288 #[.val (.long x0), .second, .val (.int x1), .val (.int x2), .val (.int x3), .val (.long (own_lushr (x0 &&& (9223372036854775807 : Int64)) (x1 &&& (63 : Int32)))), .second, .val (.int ((x2 &&& (2147483647 : Int32)) % (8 : Int32))), .val (.int (own_i2b x3)), .val (.ref b1), .val (.int (own_m0_233a x0 x1)), .val (.int z)] []))
  refine own_of (fun _ kk => XS.aload X28.here hx rfl (hb hby at_288) rfl rfl kk) ?_
  show own_Fin _ _ _ _ _ _ _ (T28.setTop (mkF m 290 #[.val (.long x0), .second, .val (.int x1), .val (.int x2), .val (.int x3), .val (.long (own_lushr (x0 &&& (9223372036854775807 : Int64)) (x1 &&& (63 : Int32)))), .second, .val (.int ((x2 &&& (2147483647 : Int32)) % (8 : Int32))), .val (.int (own_i2b x3)), .val (.ref b1), .val (.int (own_m0_233a x0 x1)), .val (.int z)] [(.ref b1)]))
  refine own_of (fun _ kk => XS.iconst X28.here hx rfl (hb hby at_290) kk) ?_
  show own_Fin _ _ _ _ _ _ _ (T28.setTop (mkF m 291 #[.val (.long x0), .second, .val (.int x1), .val (.int x2), .val (.int x3), .val (.long (own_lushr (x0 &&& (9223372036854775807 : Int64)) (x1 &&& (63 : Int32)))), .second, .val (.int ((x2 &&& (2147483647 : Int32)) % (8 : Int32))), .val (.int (own_i2b x3)), .val (.ref b1), .val (.int (own_m0_233a x0 x1)), .val (.int z)] [(.int (2 : Int32)), (.ref b1)]))
  refine own_of (fun _ kk => XS.iload X28.here hx rfl (hb hby at_291) rfl kk) ?_
  show own_Fin _ _ _ _ _ _ _ (T28.setTop (mkF m 293 #[.val (.long x0), .second, .val (.int x1), .val (.int x2), .val (.int x3), .val (.long (own_lushr (x0 &&& (9223372036854775807 : Int64)) (x1 &&& (63 : Int32)))), .second, .val (.int ((x2 &&& (2147483647 : Int32)) % (8 : Int32))), .val (.int (own_i2b x3)), .val (.ref b1), .val (.int (own_m0_233a x0 x1)), .val (.int z)] [(.int ((x2 &&& (2147483647 : Int32)) % (8 : Int32))), (.int (2 : Int32)), (.ref b1)]))
  refine own_of (fun _ kk => XS.lload X28.here hx rfl (hb hby at_293) rfl kk) ?_
  show own_Fin _ _ _ _ _ _ _ (T28.setTop (mkF m 295 #[.val (.long x0), .second, .val (.int x1), .val (.int x2), .val (.int x3), .val (.long (own_lushr (x0 &&& (9223372036854775807 : Int64)) (x1 &&& (63 : Int32)))), .second, .val (.int ((x2 &&& (2147483647 : Int32)) % (8 : Int32))), .val (.int (own_i2b x3)), .val (.ref b1), .val (.int (own_m0_233a x0 x1)), .val (.int z)] [(.long (own_lushr (x0 &&& (9223372036854775807 : Int64)) (x1 &&& (63 : Int32)))), (.int ((x2 &&& (2147483647 : Int32)) % (8 : Int32))), (.int (2 : Int32)), (.ref b1)]))
  refine own_of (fun _ kk => XS.iload X28.here hx rfl (hb hby at_295) rfl kk) ?_
  show own_Fin _ _ _ _ _ _ _ (T28.setTop (mkF m 297 #[.val (.long x0), .second, .val (.int x1), .val (.int x2), .val (.int x3), .val (.long (own_lushr (x0 &&& (9223372036854775807 : Int64)) (x1 &&& (63 : Int32)))), .second, .val (.int ((x2 &&& (2147483647 : Int32)) % (8 : Int32))), .val (.int (own_i2b x3)), .val (.ref b1), .val (.int (own_m0_233a x0 x1)), .val (.int z)] [(.int (own_m0_233a x0 x1)), (.long (own_lushr (x0 &&& (9223372036854775807 : Int64)) (x1 &&& (63 : Int32)))), (.int ((x2 &&& (2147483647 : Int32)) % (8 : Int32))), (.int (2 : Int32)), (.ref b1)]))
  refine own_of (fun _ kk => XS.iload X28.here hx rfl (hb hby at_297) rfl kk) ?_
  show own_Fin _ _ _ _ _ _ _ (T28.setTop (mkF m 299 #[.val (.long x0), .second, .val (.int x1), .val (.int x2), .val (.int x3), .val (.long (own_lushr (x0 &&& (9223372036854775807 : Int64)) (x1 &&& (63 : Int32)))), .second, .val (.int ((x2 &&& (2147483647 : Int32)) % (8 : Int32))), .val (.int (own_i2b x3)), .val (.ref b1), .val (.int (own_m0_233a x0 x1)), .val (.int z)] [(.int (own_i2b x3)), (.int (own_m0_233a x0 x1)), (.long (own_lushr (x0 &&& (9223372036854775807 : Int64)) (x1 &&& (63 : Int32)))), (.int ((x2 &&& (2147483647 : Int32)) % (8 : Int32))), (.int (2 : Int32)), (.ref b1)]))
  refine own_callS X28 hx hZ hown (hw _ (List.mem_of_getElem? (i := 8) rfl)) (hw _ (List.mem_of_getElem? (i := 9) rfl)) (hw _ (List.mem_of_getElem? (i := 10) rfl)) (hw _ (List.mem_of_getElem? (i := 11) rfl)) (by decide) e28 (argsL := [(.ref b1), (.int (2 : Int32)), (.int ((x2 &&& (2147483647 : Int32)) % (8 : Int32))), (.long (own_lushr (x0 &&& (9223372036854775807 : Int64)) (x1 &&& (63 : Int32)))), (.int (own_m0_233a x0 x1)), (.int (own_i2b x3))]) (met2 l Z a0 hw b1 (2 : Int32) ((x2 &&& (2147483647 : Int32)) % (8 : Int32)) (own_lushr (x0 &&& (9223372036854775807 : Int64)) (x1 &&& (63 : Int32))) (own_m0_233a x0 x1) (own_i2b x3) 16 (own_w2 ((x2 &&& (2147483647 : Int32)) % (8 : Int32)).toInt.toNat (own_lushr (x0 &&& (9223372036854775807 : Int64)) (x1 &&& (63 : Int32))) (fun _ => (own_i2b (own_i2b x3))) k) 2 ((own_w2 ((x2 &&& (2147483647 : Int32)) % (8 : Int32)).toInt.toNat (own_lushr (x0 &&& (9223372036854775807 : Int64)) (x1 &&& (63 : Int32))) (fun _ => (own_i2b (own_i2b x3))) k) 2) h26 n0 Z26 A26 (by decide) (by decide) rfl (own_key (own_lushr (x0 &&& (9223372036854775807 : Int64)) (x1 &&& (63 : Int32))) (own_hv x0 x1) ((x2 &&& (2147483647 : Int32)) % (8 : Int32)) (own_m0_233a x0 x1) (own_i2b x3) (2 : Int32) ((x2 &&& (2147483647 : Int32)) % (8 : Int32)).toInt.toNat k 2 (fun _ => (own_i2b (own_i2b x3))) (own_at x2).1 (own_at x2).2 hk hs (by decide) (by decide) hce rfl)) (W := 0) (by decide) (by decide) (by decide) (by decide) (by rw [hml]; rfl) pd_1 rfl (rest := []) rfl (Nat.le_of_eq rfl) (hb hby at_299) ?_
  intro v29 T29 h29 L29 X29 e29 q29
  obtain ⟨rfl, qh29, rfl⟩ := q29
  rw [qh29] at e29
  have N29 := Fr.app N28 (Fr.nil n0)
  show own_Fin _ _ _ _ _ _ _ (T29.setTop (mkF m 302 #[.val (.long x0), .second, .val (.int x1), .val (.int x2), .val (.int x3), .val (.long (own_lushr (x0 &&& (9223372036854775807 : Int64)) (x1 &&& (63 : Int32)))), .second, .val (.int ((x2 &&& (2147483647 : Int32)) % (8 : Int32))), .val (.int (own_i2b x3)), .val (.ref b1), .val (.int (own_m0_233a x0 x1)), .val (.int z)] [(.int (1 : Int32))]))
  refine own_of (fun _ kk => XS.ifNo X29.here hx rfl (hb hby at_302) rfl ((if0 _ _).trans (feq (by decide : ¬ ((1 : Int32) = (0 : Int32)))).1) kk) ?_
  show own_Fin _ _ _ _ _ _ _ (T29.setTop (mkF m 305 #[.val (.long x0), .second, .val (.int x1), .val (.int x2), .val (.int x3), .val (.long (own_lushr (x0 &&& (9223372036854775807 : Int64)) (x1 &&& (63 : Int32)))), .second, .val (.int ((x2 &&& (2147483647 : Int32)) % (8 : Int32))), .val (.int (own_i2b x3)), .val (.ref b1), .val (.int (own_m0_233a x0 x1)), .val (.int z)] []))
  refine own_of (fun _ kk => XS.aload X29.here hx rfl (hb hby at_305) rfl rfl kk) ?_
  show own_Fin _ _ _ _ _ _ _ (T29.setTop (mkF m 307 #[.val (.long x0), .second, .val (.int x1), .val (.int x2), .val (.int x3), .val (.long (own_lushr (x0 &&& (9223372036854775807 : Int64)) (x1 &&& (63 : Int32)))), .second, .val (.int ((x2 &&& (2147483647 : Int32)) % (8 : Int32))), .val (.int (own_i2b x3)), .val (.ref b1), .val (.int (own_m0_233a x0 x1)), .val (.int z)] [(.ref b1)]))
  refine own_of (fun _ kk => XS.iconst X29.here hx rfl (hb hby at_307) kk) ?_
  show own_Fin _ _ _ _ _ _ _ (T29.setTop (mkF m 308 #[.val (.long x0), .second, .val (.int x1), .val (.int x2), .val (.int x3), .val (.long (own_lushr (x0 &&& (9223372036854775807 : Int64)) (x1 &&& (63 : Int32)))), .second, .val (.int ((x2 &&& (2147483647 : Int32)) % (8 : Int32))), .val (.int (own_i2b x3)), .val (.ref b1), .val (.int (own_m0_233a x0 x1)), .val (.int z)] [(.int (3 : Int32)), (.ref b1)]))
  refine own_of (fun _ kk => XS.iload X29.here hx rfl (hb hby at_308) rfl kk) ?_
  show own_Fin _ _ _ _ _ _ _ (T29.setTop (mkF m 310 #[.val (.long x0), .second, .val (.int x1), .val (.int x2), .val (.int x3), .val (.long (own_lushr (x0 &&& (9223372036854775807 : Int64)) (x1 &&& (63 : Int32)))), .second, .val (.int ((x2 &&& (2147483647 : Int32)) % (8 : Int32))), .val (.int (own_i2b x3)), .val (.ref b1), .val (.int (own_m0_233a x0 x1)), .val (.int z)] [(.int ((x2 &&& (2147483647 : Int32)) % (8 : Int32))), (.int (3 : Int32)), (.ref b1)]))
  refine own_of (fun _ kk => XS.lload X29.here hx rfl (hb hby at_310) rfl kk) ?_
  show own_Fin _ _ _ _ _ _ _ (T29.setTop (mkF m 312 #[.val (.long x0), .second, .val (.int x1), .val (.int x2), .val (.int x3), .val (.long (own_lushr (x0 &&& (9223372036854775807 : Int64)) (x1 &&& (63 : Int32)))), .second, .val (.int ((x2 &&& (2147483647 : Int32)) % (8 : Int32))), .val (.int (own_i2b x3)), .val (.ref b1), .val (.int (own_m0_233a x0 x1)), .val (.int z)] [(.long (own_lushr (x0 &&& (9223372036854775807 : Int64)) (x1 &&& (63 : Int32)))), (.int ((x2 &&& (2147483647 : Int32)) % (8 : Int32))), (.int (3 : Int32)), (.ref b1)]))
  refine own_of (fun _ kk => XS.iload X29.here hx rfl (hb hby at_312) rfl kk) ?_
  show own_Fin _ _ _ _ _ _ _ (T29.setTop (mkF m 314 #[.val (.long x0), .second, .val (.int x1), .val (.int x2), .val (.int x3), .val (.long (own_lushr (x0 &&& (9223372036854775807 : Int64)) (x1 &&& (63 : Int32)))), .second, .val (.int ((x2 &&& (2147483647 : Int32)) % (8 : Int32))), .val (.int (own_i2b x3)), .val (.ref b1), .val (.int (own_m0_233a x0 x1)), .val (.int z)] [(.int (own_m0_233a x0 x1)), (.long (own_lushr (x0 &&& (9223372036854775807 : Int64)) (x1 &&& (63 : Int32)))), (.int ((x2 &&& (2147483647 : Int32)) % (8 : Int32))), (.int (3 : Int32)), (.ref b1)]))
  refine own_of (fun _ kk => XS.iload X29.here hx rfl (hb hby at_314) rfl kk) ?_
  show own_Fin _ _ _ _ _ _ _ (T29.setTop (mkF m 316 #[.val (.long x0), .second, .val (.int x1), .val (.int x2), .val (.int x3), .val (.long (own_lushr (x0 &&& (9223372036854775807 : Int64)) (x1 &&& (63 : Int32)))), .second, .val (.int ((x2 &&& (2147483647 : Int32)) % (8 : Int32))), .val (.int (own_i2b x3)), .val (.ref b1), .val (.int (own_m0_233a x0 x1)), .val (.int z)] [(.int (own_i2b x3)), (.int (own_m0_233a x0 x1)), (.long (own_lushr (x0 &&& (9223372036854775807 : Int64)) (x1 &&& (63 : Int32)))), (.int ((x2 &&& (2147483647 : Int32)) % (8 : Int32))), (.int (3 : Int32)), (.ref b1)]))
  refine own_callS X29 hx hZ hown (hw _ (List.mem_of_getElem? (i := 8) rfl)) (hw _ (List.mem_of_getElem? (i := 9) rfl)) (hw _ (List.mem_of_getElem? (i := 10) rfl)) (hw _ (List.mem_of_getElem? (i := 11) rfl)) (by decide) e29 (argsL := [(.ref b1), (.int (3 : Int32)), (.int ((x2 &&& (2147483647 : Int32)) % (8 : Int32))), (.long (own_lushr (x0 &&& (9223372036854775807 : Int64)) (x1 &&& (63 : Int32)))), (.int (own_m0_233a x0 x1)), (.int (own_i2b x3))]) (met2 l Z a0 hw b1 (3 : Int32) ((x2 &&& (2147483647 : Int32)) % (8 : Int32)) (own_lushr (x0 &&& (9223372036854775807 : Int64)) (x1 &&& (63 : Int32))) (own_m0_233a x0 x1) (own_i2b x3) 16 (own_w2 ((x2 &&& (2147483647 : Int32)) % (8 : Int32)).toInt.toNat (own_lushr (x0 &&& (9223372036854775807 : Int64)) (x1 &&& (63 : Int32))) (fun _ => (own_i2b (own_i2b x3))) k) 3 ((own_w2 ((x2 &&& (2147483647 : Int32)) % (8 : Int32)).toInt.toNat (own_lushr (x0 &&& (9223372036854775807 : Int64)) (x1 &&& (63 : Int32))) (fun _ => (own_i2b (own_i2b x3))) k) 3) h26 n0 Z26 A26 (by decide) (by decide) rfl (own_key (own_lushr (x0 &&& (9223372036854775807 : Int64)) (x1 &&& (63 : Int32))) (own_hv x0 x1) ((x2 &&& (2147483647 : Int32)) % (8 : Int32)) (own_m0_233a x0 x1) (own_i2b x3) (3 : Int32) ((x2 &&& (2147483647 : Int32)) % (8 : Int32)).toInt.toNat k 3 (fun _ => (own_i2b (own_i2b x3))) (own_at x2).1 (own_at x2).2 hk hs (by decide) (by decide) hce rfl)) (W := 0) (by decide) (by decide) (by decide) (by decide) (by rw [hml]; rfl) pd_1 rfl (rest := []) rfl (Nat.le_of_eq rfl) (hb hby at_316) ?_
  intro v30 T30 h30 L30 X30 e30 q30
  obtain ⟨rfl, qh30, rfl⟩ := q30
  rw [qh30] at e30
  have N30 := Fr.app N29 (Fr.nil n0)
  show own_Fin _ _ _ _ _ _ _ (T30.setTop (mkF m 319 #[.val (.long x0), .second, .val (.int x1), .val (.int x2), .val (.int x3), .val (.long (own_lushr (x0 &&& (9223372036854775807 : Int64)) (x1 &&& (63 : Int32)))), .second, .val (.int ((x2 &&& (2147483647 : Int32)) % (8 : Int32))), .val (.int (own_i2b x3)), .val (.ref b1), .val (.int (own_m0_233a x0 x1)), .val (.int z)] [(.int (1 : Int32))]))
  refine own_of (fun _ kk => XS.ifNo X30.here hx rfl (hb hby at_319) rfl ((if0 _ _).trans (feq (by decide : ¬ ((1 : Int32) = (0 : Int32)))).1) kk) ?_
  show own_Fin _ _ _ _ _ _ _ (T30.setTop (mkF m 322 #[.val (.long x0), .second, .val (.int x1), .val (.int x2), .val (.int x3), .val (.long (own_lushr (x0 &&& (9223372036854775807 : Int64)) (x1 &&& (63 : Int32)))), .second, .val (.int ((x2 &&& (2147483647 : Int32)) % (8 : Int32))), .val (.int (own_i2b x3)), .val (.ref b1), .val (.int (own_m0_233a x0 x1)), .val (.int z)] []))
  refine own_of (fun _ kk => XS.aload X30.here hx rfl (hb hby at_322) rfl rfl kk) ?_
  show own_Fin _ _ _ _ _ _ _ (T30.setTop (mkF m 324 #[.val (.long x0), .second, .val (.int x1), .val (.int x2), .val (.int x3), .val (.long (own_lushr (x0 &&& (9223372036854775807 : Int64)) (x1 &&& (63 : Int32)))), .second, .val (.int ((x2 &&& (2147483647 : Int32)) % (8 : Int32))), .val (.int (own_i2b x3)), .val (.ref b1), .val (.int (own_m0_233a x0 x1)), .val (.int z)] [(.ref b1)]))
  refine own_of (fun _ kk => XS.iconst X30.here hx rfl (hb hby at_324) kk) ?_
  show own_Fin _ _ _ _ _ _ _ (T30.setTop (mkF m 325 #[.val (.long x0), .second, .val (.int x1), .val (.int x2), .val (.int x3), .val (.long (own_lushr (x0 &&& (9223372036854775807 : Int64)) (x1 &&& (63 : Int32)))), .second, .val (.int ((x2 &&& (2147483647 : Int32)) % (8 : Int32))), .val (.int (own_i2b x3)), .val (.ref b1), .val (.int (own_m0_233a x0 x1)), .val (.int z)] [(.int (4 : Int32)), (.ref b1)]))
  refine own_of (fun _ kk => XS.iload X30.here hx rfl (hb hby at_325) rfl kk) ?_
  show own_Fin _ _ _ _ _ _ _ (T30.setTop (mkF m 327 #[.val (.long x0), .second, .val (.int x1), .val (.int x2), .val (.int x3), .val (.long (own_lushr (x0 &&& (9223372036854775807 : Int64)) (x1 &&& (63 : Int32)))), .second, .val (.int ((x2 &&& (2147483647 : Int32)) % (8 : Int32))), .val (.int (own_i2b x3)), .val (.ref b1), .val (.int (own_m0_233a x0 x1)), .val (.int z)] [(.int ((x2 &&& (2147483647 : Int32)) % (8 : Int32))), (.int (4 : Int32)), (.ref b1)]))
  refine own_of (fun _ kk => XS.lload X30.here hx rfl (hb hby at_327) rfl kk) ?_
  show own_Fin _ _ _ _ _ _ _ (T30.setTop (mkF m 329 #[.val (.long x0), .second, .val (.int x1), .val (.int x2), .val (.int x3), .val (.long (own_lushr (x0 &&& (9223372036854775807 : Int64)) (x1 &&& (63 : Int32)))), .second, .val (.int ((x2 &&& (2147483647 : Int32)) % (8 : Int32))), .val (.int (own_i2b x3)), .val (.ref b1), .val (.int (own_m0_233a x0 x1)), .val (.int z)] [(.long (own_lushr (x0 &&& (9223372036854775807 : Int64)) (x1 &&& (63 : Int32)))), (.int ((x2 &&& (2147483647 : Int32)) % (8 : Int32))), (.int (4 : Int32)), (.ref b1)]))
  refine own_of (fun _ kk => XS.iload X30.here hx rfl (hb hby at_329) rfl kk) ?_
  show own_Fin _ _ _ _ _ _ _ (T30.setTop (mkF m 331 #[.val (.long x0), .second, .val (.int x1), .val (.int x2), .val (.int x3), .val (.long (own_lushr (x0 &&& (9223372036854775807 : Int64)) (x1 &&& (63 : Int32)))), .second, .val (.int ((x2 &&& (2147483647 : Int32)) % (8 : Int32))), .val (.int (own_i2b x3)), .val (.ref b1), .val (.int (own_m0_233a x0 x1)), .val (.int z)] [(.int (own_m0_233a x0 x1)), (.long (own_lushr (x0 &&& (9223372036854775807 : Int64)) (x1 &&& (63 : Int32)))), (.int ((x2 &&& (2147483647 : Int32)) % (8 : Int32))), (.int (4 : Int32)), (.ref b1)]))
  refine own_of (fun _ kk => XS.iload X30.here hx rfl (hb hby at_331) rfl kk) ?_
  show own_Fin _ _ _ _ _ _ _ (T30.setTop (mkF m 333 #[.val (.long x0), .second, .val (.int x1), .val (.int x2), .val (.int x3), .val (.long (own_lushr (x0 &&& (9223372036854775807 : Int64)) (x1 &&& (63 : Int32)))), .second, .val (.int ((x2 &&& (2147483647 : Int32)) % (8 : Int32))), .val (.int (own_i2b x3)), .val (.ref b1), .val (.int (own_m0_233a x0 x1)), .val (.int z)] [(.int (own_i2b x3)), (.int (own_m0_233a x0 x1)), (.long (own_lushr (x0 &&& (9223372036854775807 : Int64)) (x1 &&& (63 : Int32)))), (.int ((x2 &&& (2147483647 : Int32)) % (8 : Int32))), (.int (4 : Int32)), (.ref b1)]))
  refine own_callS X30 hx hZ hown (hw _ (List.mem_of_getElem? (i := 8) rfl)) (hw _ (List.mem_of_getElem? (i := 9) rfl)) (hw _ (List.mem_of_getElem? (i := 10) rfl)) (hw _ (List.mem_of_getElem? (i := 11) rfl)) (by decide) e30 (argsL := [(.ref b1), (.int (4 : Int32)), (.int ((x2 &&& (2147483647 : Int32)) % (8 : Int32))), (.long (own_lushr (x0 &&& (9223372036854775807 : Int64)) (x1 &&& (63 : Int32)))), (.int (own_m0_233a x0 x1)), (.int (own_i2b x3))]) (met2 l Z a0 hw b1 (4 : Int32) ((x2 &&& (2147483647 : Int32)) % (8 : Int32)) (own_lushr (x0 &&& (9223372036854775807 : Int64)) (x1 &&& (63 : Int32))) (own_m0_233a x0 x1) (own_i2b x3) 16 (own_w2 ((x2 &&& (2147483647 : Int32)) % (8 : Int32)).toInt.toNat (own_lushr (x0 &&& (9223372036854775807 : Int64)) (x1 &&& (63 : Int32))) (fun _ => (own_i2b (own_i2b x3))) k) 4 ((own_w2 ((x2 &&& (2147483647 : Int32)) % (8 : Int32)).toInt.toNat (own_lushr (x0 &&& (9223372036854775807 : Int64)) (x1 &&& (63 : Int32))) (fun _ => (own_i2b (own_i2b x3))) k) 4) h26 n0 Z26 A26 (by decide) (by decide) rfl (own_key (own_lushr (x0 &&& (9223372036854775807 : Int64)) (x1 &&& (63 : Int32))) (own_hv x0 x1) ((x2 &&& (2147483647 : Int32)) % (8 : Int32)) (own_m0_233a x0 x1) (own_i2b x3) (4 : Int32) ((x2 &&& (2147483647 : Int32)) % (8 : Int32)).toInt.toNat k 4 (fun _ => (own_i2b (own_i2b x3))) (own_at x2).1 (own_at x2).2 hk hs (by decide) (by decide) hce rfl)) (W := 0) (by decide) (by decide) (by decide) (by decide) (by rw [hml]; rfl) pd_1 rfl (rest := []) rfl (Nat.le_of_eq rfl) (hb hby at_333) ?_
  intro v31 T31 h31 L31 X31 e31 q31
  obtain ⟨rfl, qh31, rfl⟩ := q31
  rw [qh31] at e31
  have N31 := Fr.app N30 (Fr.nil n0)
  show own_Fin _ _ _ _ _ _ _ (T31.setTop (mkF m 336 #[.val (.long x0), .second, .val (.int x1), .val (.int x2), .val (.int x3), .val (.long (own_lushr (x0 &&& (9223372036854775807 : Int64)) (x1 &&& (63 : Int32)))), .second, .val (.int ((x2 &&& (2147483647 : Int32)) % (8 : Int32))), .val (.int (own_i2b x3)), .val (.ref b1), .val (.int (own_m0_233a x0 x1)), .val (.int z)] [(.int (1 : Int32))]))
  refine own_of (fun _ kk => XS.ifNo X31.here hx rfl (hb hby at_336) rfl ((if0 _ _).trans (feq (by decide : ¬ ((1 : Int32) = (0 : Int32)))).1) kk) ?_
  show own_Fin _ _ _ _ _ _ _ (T31.setTop (mkF m 339 #[.val (.long x0), .second, .val (.int x1), .val (.int x2), .val (.int x3), .val (.long (own_lushr (x0 &&& (9223372036854775807 : Int64)) (x1 &&& (63 : Int32)))), .second, .val (.int ((x2 &&& (2147483647 : Int32)) % (8 : Int32))), .val (.int (own_i2b x3)), .val (.ref b1), .val (.int (own_m0_233a x0 x1)), .val (.int z)] []))
  refine own_of (fun _ kk => XS.aload X31.here hx rfl (hb hby at_339) rfl rfl kk) ?_
  show own_Fin _ _ _ _ _ _ _ (T31.setTop (mkF m 341 #[.val (.long x0), .second, .val (.int x1), .val (.int x2), .val (.int x3), .val (.long (own_lushr (x0 &&& (9223372036854775807 : Int64)) (x1 &&& (63 : Int32)))), .second, .val (.int ((x2 &&& (2147483647 : Int32)) % (8 : Int32))), .val (.int (own_i2b x3)), .val (.ref b1), .val (.int (own_m0_233a x0 x1)), .val (.int z)] [(.ref b1)]))
  refine own_of (fun _ kk => XS.iconst X31.here hx rfl (hb hby at_341) kk) ?_
  show own_Fin _ _ _ _ _ _ _ (T31.setTop (mkF m 342 #[.val (.long x0), .second, .val (.int x1), .val (.int x2), .val (.int x3), .val (.long (own_lushr (x0 &&& (9223372036854775807 : Int64)) (x1 &&& (63 : Int32)))), .second, .val (.int ((x2 &&& (2147483647 : Int32)) % (8 : Int32))), .val (.int (own_i2b x3)), .val (.ref b1), .val (.int (own_m0_233a x0 x1)), .val (.int z)] [(.int (5 : Int32)), (.ref b1)]))
  refine own_of (fun _ kk => XS.iload X31.here hx rfl (hb hby at_342) rfl kk) ?_
  show own_Fin _ _ _ _ _ _ _ (T31.setTop (mkF m 344 #[.val (.long x0), .second, .val (.int x1), .val (.int x2), .val (.int x3), .val (.long (own_lushr (x0 &&& (9223372036854775807 : Int64)) (x1 &&& (63 : Int32)))), .second, .val (.int ((x2 &&& (2147483647 : Int32)) % (8 : Int32))), .val (.int (own_i2b x3)), .val (.ref b1), .val (.int (own_m0_233a x0 x1)), .val (.int z)] [(.int ((x2 &&& (2147483647 : Int32)) % (8 : Int32))), (.int (5 : Int32)), (.ref b1)]))
  refine own_of (fun _ kk => XS.lload X31.here hx rfl (hb hby at_344) rfl kk) ?_
  show own_Fin _ _ _ _ _ _ _ (T31.setTop (mkF m 346 #[.val (.long x0), .second, .val (.int x1), .val (.int x2), .val (.int x3), .val (.long (own_lushr (x0 &&& (9223372036854775807 : Int64)) (x1 &&& (63 : Int32)))), .second, .val (.int ((x2 &&& (2147483647 : Int32)) % (8 : Int32))), .val (.int (own_i2b x3)), .val (.ref b1), .val (.int (own_m0_233a x0 x1)), .val (.int z)] [(.long (own_lushr (x0 &&& (9223372036854775807 : Int64)) (x1 &&& (63 : Int32)))), (.int ((x2 &&& (2147483647 : Int32)) % (8 : Int32))), (.int (5 : Int32)), (.ref b1)]))
  refine own_of (fun _ kk => XS.iload X31.here hx rfl (hb hby at_346) rfl kk) ?_
  show own_Fin _ _ _ _ _ _ _ (T31.setTop (mkF m 348 #[.val (.long x0), .second, .val (.int x1), .val (.int x2), .val (.int x3), .val (.long (own_lushr (x0 &&& (9223372036854775807 : Int64)) (x1 &&& (63 : Int32)))), .second, .val (.int ((x2 &&& (2147483647 : Int32)) % (8 : Int32))), .val (.int (own_i2b x3)), .val (.ref b1), .val (.int (own_m0_233a x0 x1)), .val (.int z)] [(.int (own_m0_233a x0 x1)), (.long (own_lushr (x0 &&& (9223372036854775807 : Int64)) (x1 &&& (63 : Int32)))), (.int ((x2 &&& (2147483647 : Int32)) % (8 : Int32))), (.int (5 : Int32)), (.ref b1)]))
  refine own_of (fun _ kk => XS.iload X31.here hx rfl (hb hby at_348) rfl kk) ?_
  show own_Fin _ _ _ _ _ _ _ (T31.setTop (mkF m 350 #[.val (.long x0), .second, .val (.int x1), .val (.int x2), .val (.int x3), .val (.long (own_lushr (x0 &&& (9223372036854775807 : Int64)) (x1 &&& (63 : Int32)))), .second, .val (.int ((x2 &&& (2147483647 : Int32)) % (8 : Int32))), .val (.int (own_i2b x3)), .val (.ref b1), .val (.int (own_m0_233a x0 x1)), .val (.int z)] [(.int (own_i2b x3)), (.int (own_m0_233a x0 x1)), (.long (own_lushr (x0 &&& (9223372036854775807 : Int64)) (x1 &&& (63 : Int32)))), (.int ((x2 &&& (2147483647 : Int32)) % (8 : Int32))), (.int (5 : Int32)), (.ref b1)]))
  refine own_callS X31 hx hZ hown (hw _ (List.mem_of_getElem? (i := 8) rfl)) (hw _ (List.mem_of_getElem? (i := 9) rfl)) (hw _ (List.mem_of_getElem? (i := 10) rfl)) (hw _ (List.mem_of_getElem? (i := 11) rfl)) (by decide) e31 (argsL := [(.ref b1), (.int (5 : Int32)), (.int ((x2 &&& (2147483647 : Int32)) % (8 : Int32))), (.long (own_lushr (x0 &&& (9223372036854775807 : Int64)) (x1 &&& (63 : Int32)))), (.int (own_m0_233a x0 x1)), (.int (own_i2b x3))]) (met2 l Z a0 hw b1 (5 : Int32) ((x2 &&& (2147483647 : Int32)) % (8 : Int32)) (own_lushr (x0 &&& (9223372036854775807 : Int64)) (x1 &&& (63 : Int32))) (own_m0_233a x0 x1) (own_i2b x3) 16 (own_w2 ((x2 &&& (2147483647 : Int32)) % (8 : Int32)).toInt.toNat (own_lushr (x0 &&& (9223372036854775807 : Int64)) (x1 &&& (63 : Int32))) (fun _ => (own_i2b (own_i2b x3))) k) 5 ((own_w2 ((x2 &&& (2147483647 : Int32)) % (8 : Int32)).toInt.toNat (own_lushr (x0 &&& (9223372036854775807 : Int64)) (x1 &&& (63 : Int32))) (fun _ => (own_i2b (own_i2b x3))) k) 5) h26 n0 Z26 A26 (by decide) (by decide) rfl (own_key (own_lushr (x0 &&& (9223372036854775807 : Int64)) (x1 &&& (63 : Int32))) (own_hv x0 x1) ((x2 &&& (2147483647 : Int32)) % (8 : Int32)) (own_m0_233a x0 x1) (own_i2b x3) (5 : Int32) ((x2 &&& (2147483647 : Int32)) % (8 : Int32)).toInt.toNat k 5 (fun _ => (own_i2b (own_i2b x3))) (own_at x2).1 (own_at x2).2 hk hs (by decide) (by decide) hce rfl)) (W := 0) (by decide) (by decide) (by decide) (by decide) (by rw [hml]; rfl) pd_1 rfl (rest := []) rfl (Nat.le_of_eq rfl) (hb hby at_350) ?_
  intro v32 T32 h32 L32 X32 e32 q32
  obtain ⟨rfl, qh32, rfl⟩ := q32
  rw [qh32] at e32
  have N32 := Fr.app N31 (Fr.nil n0)
  show own_Fin _ _ _ _ _ _ _ (T32.setTop (mkF m 353 #[.val (.long x0), .second, .val (.int x1), .val (.int x2), .val (.int x3), .val (.long (own_lushr (x0 &&& (9223372036854775807 : Int64)) (x1 &&& (63 : Int32)))), .second, .val (.int ((x2 &&& (2147483647 : Int32)) % (8 : Int32))), .val (.int (own_i2b x3)), .val (.ref b1), .val (.int (own_m0_233a x0 x1)), .val (.int z)] [(.int (1 : Int32))]))
  refine own_of (fun _ kk => XS.ifNo X32.here hx rfl (hb hby at_353) rfl ((if0 _ _).trans (feq (by decide : ¬ ((1 : Int32) = (0 : Int32)))).1) kk) ?_
  show own_Fin _ _ _ _ _ _ _ (T32.setTop (mkF m 356 #[.val (.long x0), .second, .val (.int x1), .val (.int x2), .val (.int x3), .val (.long (own_lushr (x0 &&& (9223372036854775807 : Int64)) (x1 &&& (63 : Int32)))), .second, .val (.int ((x2 &&& (2147483647 : Int32)) % (8 : Int32))), .val (.int (own_i2b x3)), .val (.ref b1), .val (.int (own_m0_233a x0 x1)), .val (.int z)] []))
  refine own_of (fun _ kk => XS.aload X32.here hx rfl (hb hby at_356) rfl rfl kk) ?_
  show own_Fin _ _ _ _ _ _ _ (T32.setTop (mkF m 358 #[.val (.long x0), .second, .val (.int x1), .val (.int x2), .val (.int x3), .val (.long (own_lushr (x0 &&& (9223372036854775807 : Int64)) (x1 &&& (63 : Int32)))), .second, .val (.int ((x2 &&& (2147483647 : Int32)) % (8 : Int32))), .val (.int (own_i2b x3)), .val (.ref b1), .val (.int (own_m0_233a x0 x1)), .val (.int z)] [(.ref b1)]))
  refine own_of (fun _ kk => XS.bipush X32.here hx rfl (hb hby at_358) kk) ?_
  show own_Fin _ _ _ _ _ _ _ (T32.setTop (mkF m 360 #[.val (.long x0), .second, .val (.int x1), .val (.int x2), .val (.int x3), .val (.long (own_lushr (x0 &&& (9223372036854775807 : Int64)) (x1 &&& (63 : Int32)))), .second, .val (.int ((x2 &&& (2147483647 : Int32)) % (8 : Int32))), .val (.int (own_i2b x3)), .val (.ref b1), .val (.int (own_m0_233a x0 x1)), .val (.int z)] [(.int (6 : Int32)), (.ref b1)]))
  refine own_of (fun _ kk => XS.iload X32.here hx rfl (hb hby at_360) rfl kk) ?_
  show own_Fin _ _ _ _ _ _ _ (T32.setTop (mkF m 362 #[.val (.long x0), .second, .val (.int x1), .val (.int x2), .val (.int x3), .val (.long (own_lushr (x0 &&& (9223372036854775807 : Int64)) (x1 &&& (63 : Int32)))), .second, .val (.int ((x2 &&& (2147483647 : Int32)) % (8 : Int32))), .val (.int (own_i2b x3)), .val (.ref b1), .val (.int (own_m0_233a x0 x1)), .val (.int z)] [(.int ((x2 &&& (2147483647 : Int32)) % (8 : Int32))), (.int (6 : Int32)), (.ref b1)]))
  refine own_of (fun _ kk => XS.lload X32.here hx rfl (hb hby at_362) rfl kk) ?_
  show own_Fin _ _ _ _ _ _ _ (T32.setTop (mkF m 364 #[.val (.long x0), .second, .val (.int x1), .val (.int x2), .val (.int x3), .val (.long (own_lushr (x0 &&& (9223372036854775807 : Int64)) (x1 &&& (63 : Int32)))), .second, .val (.int ((x2 &&& (2147483647 : Int32)) % (8 : Int32))), .val (.int (own_i2b x3)), .val (.ref b1), .val (.int (own_m0_233a x0 x1)), .val (.int z)] [(.long (own_lushr (x0 &&& (9223372036854775807 : Int64)) (x1 &&& (63 : Int32)))), (.int ((x2 &&& (2147483647 : Int32)) % (8 : Int32))), (.int (6 : Int32)), (.ref b1)]))
  refine own_of (fun _ kk => XS.iload X32.here hx rfl (hb hby at_364) rfl kk) ?_
  show own_Fin _ _ _ _ _ _ _ (T32.setTop (mkF m 366 #[.val (.long x0), .second, .val (.int x1), .val (.int x2), .val (.int x3), .val (.long (own_lushr (x0 &&& (9223372036854775807 : Int64)) (x1 &&& (63 : Int32)))), .second, .val (.int ((x2 &&& (2147483647 : Int32)) % (8 : Int32))), .val (.int (own_i2b x3)), .val (.ref b1), .val (.int (own_m0_233a x0 x1)), .val (.int z)] [(.int (own_m0_233a x0 x1)), (.long (own_lushr (x0 &&& (9223372036854775807 : Int64)) (x1 &&& (63 : Int32)))), (.int ((x2 &&& (2147483647 : Int32)) % (8 : Int32))), (.int (6 : Int32)), (.ref b1)]))
  refine own_of (fun _ kk => XS.iload X32.here hx rfl (hb hby at_366) rfl kk) ?_
  show own_Fin _ _ _ _ _ _ _ (T32.setTop (mkF m 368 #[.val (.long x0), .second, .val (.int x1), .val (.int x2), .val (.int x3), .val (.long (own_lushr (x0 &&& (9223372036854775807 : Int64)) (x1 &&& (63 : Int32)))), .second, .val (.int ((x2 &&& (2147483647 : Int32)) % (8 : Int32))), .val (.int (own_i2b x3)), .val (.ref b1), .val (.int (own_m0_233a x0 x1)), .val (.int z)] [(.int (own_i2b x3)), (.int (own_m0_233a x0 x1)), (.long (own_lushr (x0 &&& (9223372036854775807 : Int64)) (x1 &&& (63 : Int32)))), (.int ((x2 &&& (2147483647 : Int32)) % (8 : Int32))), (.int (6 : Int32)), (.ref b1)]))
  refine own_callS X32 hx hZ hown (hw _ (List.mem_of_getElem? (i := 8) rfl)) (hw _ (List.mem_of_getElem? (i := 9) rfl)) (hw _ (List.mem_of_getElem? (i := 10) rfl)) (hw _ (List.mem_of_getElem? (i := 11) rfl)) (by decide) e32 (argsL := [(.ref b1), (.int (6 : Int32)), (.int ((x2 &&& (2147483647 : Int32)) % (8 : Int32))), (.long (own_lushr (x0 &&& (9223372036854775807 : Int64)) (x1 &&& (63 : Int32)))), (.int (own_m0_233a x0 x1)), (.int (own_i2b x3))]) (met2 l Z a0 hw b1 (6 : Int32) ((x2 &&& (2147483647 : Int32)) % (8 : Int32)) (own_lushr (x0 &&& (9223372036854775807 : Int64)) (x1 &&& (63 : Int32))) (own_m0_233a x0 x1) (own_i2b x3) 16 (own_w2 ((x2 &&& (2147483647 : Int32)) % (8 : Int32)).toInt.toNat (own_lushr (x0 &&& (9223372036854775807 : Int64)) (x1 &&& (63 : Int32))) (fun _ => (own_i2b (own_i2b x3))) k) 6 ((own_w2 ((x2 &&& (2147483647 : Int32)) % (8 : Int32)).toInt.toNat (own_lushr (x0 &&& (9223372036854775807 : Int64)) (x1 &&& (63 : Int32))) (fun _ => (own_i2b (own_i2b x3))) k) 6) h26 n0 Z26 A26 (by decide) (by decide) rfl (own_key (own_lushr (x0 &&& (9223372036854775807 : Int64)) (x1 &&& (63 : Int32))) (own_hv x0 x1) ((x2 &&& (2147483647 : Int32)) % (8 : Int32)) (own_m0_233a x0 x1) (own_i2b x3) (6 : Int32) ((x2 &&& (2147483647 : Int32)) % (8 : Int32)).toInt.toNat k 6 (fun _ => (own_i2b (own_i2b x3))) (own_at x2).1 (own_at x2).2 hk hs (by decide) (by decide) hce rfl)) (W := 0) (by decide) (by decide) (by decide) (by decide) (by rw [hml]; rfl) pd_1 rfl (rest := []) rfl (Nat.le_of_eq rfl) (hb hby at_368) ?_
  intro v33 T33 h33 L33 X33 e33 q33
  obtain ⟨rfl, qh33, rfl⟩ := q33
  rw [qh33] at e33
  have N33 := Fr.app N32 (Fr.nil n0)
  show own_Fin _ _ _ _ _ _ _ (T33.setTop (mkF m 371 #[.val (.long x0), .second, .val (.int x1), .val (.int x2), .val (.int x3), .val (.long (own_lushr (x0 &&& (9223372036854775807 : Int64)) (x1 &&& (63 : Int32)))), .second, .val (.int ((x2 &&& (2147483647 : Int32)) % (8 : Int32))), .val (.int (own_i2b x3)), .val (.ref b1), .val (.int (own_m0_233a x0 x1)), .val (.int z)] [(.int (1 : Int32))]))
  refine own_of (fun _ kk => XS.ifNo X33.here hx rfl (hb hby at_371) rfl ((if0 _ _).trans (feq (by decide : ¬ ((1 : Int32) = (0 : Int32)))).1) kk) ?_
  show own_Fin _ _ _ _ _ _ _ (T33.setTop (mkF m 374 #[.val (.long x0), .second, .val (.int x1), .val (.int x2), .val (.int x3), .val (.long (own_lushr (x0 &&& (9223372036854775807 : Int64)) (x1 &&& (63 : Int32)))), .second, .val (.int ((x2 &&& (2147483647 : Int32)) % (8 : Int32))), .val (.int (own_i2b x3)), .val (.ref b1), .val (.int (own_m0_233a x0 x1)), .val (.int z)] []))
  refine own_of (fun _ kk => XS.aload X33.here hx rfl (hb hby at_374) rfl rfl kk) ?_
  show own_Fin _ _ _ _ _ _ _ (T33.setTop (mkF m 376 #[.val (.long x0), .second, .val (.int x1), .val (.int x2), .val (.int x3), .val (.long (own_lushr (x0 &&& (9223372036854775807 : Int64)) (x1 &&& (63 : Int32)))), .second, .val (.int ((x2 &&& (2147483647 : Int32)) % (8 : Int32))), .val (.int (own_i2b x3)), .val (.ref b1), .val (.int (own_m0_233a x0 x1)), .val (.int z)] [(.ref b1)]))
  refine own_of (fun _ kk => XS.bipush X33.here hx rfl (hb hby at_376) kk) ?_
  show own_Fin _ _ _ _ _ _ _ (T33.setTop (mkF m 378 #[.val (.long x0), .second, .val (.int x1), .val (.int x2), .val (.int x3), .val (.long (own_lushr (x0 &&& (9223372036854775807 : Int64)) (x1 &&& (63 : Int32)))), .second, .val (.int ((x2 &&& (2147483647 : Int32)) % (8 : Int32))), .val (.int (own_i2b x3)), .val (.ref b1), .val (.int (own_m0_233a x0 x1)), .val (.int z)] [(.int (7 : Int32)), (.ref b1)]))
  refine own_of (fun _ kk => XS.iload X33.here hx rfl (hb hby at_378) rfl kk) ?_
  show own_Fin _ _ _ _ _ _ _ (T33.setTop (mkF m 380 #[.val (.long x0), .second, .val (.int x1), .val (.int x2), .val (.int x3), .val (.long (own_lushr (x0 &&& (9223372036854775807 : Int64)) (x1 &&& (63 : Int32)))), .second, .val (.int ((x2 &&& (2147483647 : Int32)) % (8 : Int32))), .val (.int (own_i2b x3)), .val (.ref b1), .val (.int (own_m0_233a x0 x1)), .val (.int z)] [(.int ((x2 &&& (2147483647 : Int32)) % (8 : Int32))), (.int (7 : Int32)), (.ref b1)]))
  refine own_of (fun _ kk => XS.lload X33.here hx rfl (hb hby at_380) rfl kk) ?_
  show own_Fin _ _ _ _ _ _ _ (T33.setTop (mkF m 382 #[.val (.long x0), .second, .val (.int x1), .val (.int x2), .val (.int x3), .val (.long (own_lushr (x0 &&& (9223372036854775807 : Int64)) (x1 &&& (63 : Int32)))), .second, .val (.int ((x2 &&& (2147483647 : Int32)) % (8 : Int32))), .val (.int (own_i2b x3)), .val (.ref b1), .val (.int (own_m0_233a x0 x1)), .val (.int z)] [(.long (own_lushr (x0 &&& (9223372036854775807 : Int64)) (x1 &&& (63 : Int32)))), (.int ((x2 &&& (2147483647 : Int32)) % (8 : Int32))), (.int (7 : Int32)), (.ref b1)]))
  refine own_of (fun _ kk => XS.iload X33.here hx rfl (hb hby at_382) rfl kk) ?_
  show own_Fin _ _ _ _ _ _ _ (T33.setTop (mkF m 384 #[.val (.long x0), .second, .val (.int x1), .val (.int x2), .val (.int x3), .val (.long (own_lushr (x0 &&& (9223372036854775807 : Int64)) (x1 &&& (63 : Int32)))), .second, .val (.int ((x2 &&& (2147483647 : Int32)) % (8 : Int32))), .val (.int (own_i2b x3)), .val (.ref b1), .val (.int (own_m0_233a x0 x1)), .val (.int z)] [(.int (own_m0_233a x0 x1)), (.long (own_lushr (x0 &&& (9223372036854775807 : Int64)) (x1 &&& (63 : Int32)))), (.int ((x2 &&& (2147483647 : Int32)) % (8 : Int32))), (.int (7 : Int32)), (.ref b1)]))
  refine own_of (fun _ kk => XS.iload X33.here hx rfl (hb hby at_384) rfl kk) ?_
  show own_Fin _ _ _ _ _ _ _ (T33.setTop (mkF m 386 #[.val (.long x0), .second, .val (.int x1), .val (.int x2), .val (.int x3), .val (.long (own_lushr (x0 &&& (9223372036854775807 : Int64)) (x1 &&& (63 : Int32)))), .second, .val (.int ((x2 &&& (2147483647 : Int32)) % (8 : Int32))), .val (.int (own_i2b x3)), .val (.ref b1), .val (.int (own_m0_233a x0 x1)), .val (.int z)] [(.int (own_i2b x3)), (.int (own_m0_233a x0 x1)), (.long (own_lushr (x0 &&& (9223372036854775807 : Int64)) (x1 &&& (63 : Int32)))), (.int ((x2 &&& (2147483647 : Int32)) % (8 : Int32))), (.int (7 : Int32)), (.ref b1)]))
  refine own_callS X33 hx hZ hown (hw _ (List.mem_of_getElem? (i := 8) rfl)) (hw _ (List.mem_of_getElem? (i := 9) rfl)) (hw _ (List.mem_of_getElem? (i := 10) rfl)) (hw _ (List.mem_of_getElem? (i := 11) rfl)) (by decide) e33 (argsL := [(.ref b1), (.int (7 : Int32)), (.int ((x2 &&& (2147483647 : Int32)) % (8 : Int32))), (.long (own_lushr (x0 &&& (9223372036854775807 : Int64)) (x1 &&& (63 : Int32)))), (.int (own_m0_233a x0 x1)), (.int (own_i2b x3))]) (met2 l Z a0 hw b1 (7 : Int32) ((x2 &&& (2147483647 : Int32)) % (8 : Int32)) (own_lushr (x0 &&& (9223372036854775807 : Int64)) (x1 &&& (63 : Int32))) (own_m0_233a x0 x1) (own_i2b x3) 16 (own_w2 ((x2 &&& (2147483647 : Int32)) % (8 : Int32)).toInt.toNat (own_lushr (x0 &&& (9223372036854775807 : Int64)) (x1 &&& (63 : Int32))) (fun _ => (own_i2b (own_i2b x3))) k) 7 ((own_w2 ((x2 &&& (2147483647 : Int32)) % (8 : Int32)).toInt.toNat (own_lushr (x0 &&& (9223372036854775807 : Int64)) (x1 &&& (63 : Int32))) (fun _ => (own_i2b (own_i2b x3))) k) 7) h26 n0 Z26 A26 (by decide) (by decide) rfl (own_key (own_lushr (x0 &&& (9223372036854775807 : Int64)) (x1 &&& (63 : Int32))) (own_hv x0 x1) ((x2 &&& (2147483647 : Int32)) % (8 : Int32)) (own_m0_233a x0 x1) (own_i2b x3) (7 : Int32) ((x2 &&& (2147483647 : Int32)) % (8 : Int32)).toInt.toNat k 7 (fun _ => (own_i2b (own_i2b x3))) (own_at x2).1 (own_at x2).2 hk hs (by decide) (by decide) hce rfl)) (W := 0) (by decide) (by decide) (by decide) (by decide) (by rw [hml]; rfl) pd_1 rfl (rest := []) rfl (Nat.le_of_eq rfl) (hb hby at_386) ?_
  intro v34 T34 h34 L34 X34 e34 q34
  obtain ⟨rfl, qh34, rfl⟩ := q34
  rw [qh34] at e34
  have N34 := Fr.app N33 (Fr.nil n0)
  show own_Fin _ _ _ _ _ _ _ (T34.setTop (mkF m 389 #[.val (.long x0), .second, .val (.int x1), .val (.int x2), .val (.int x3), .val (.long (own_lushr (x0 &&& (9223372036854775807 : Int64)) (x1 &&& (63 : Int32)))), .second, .val (.int ((x2 &&& (2147483647 : Int32)) % (8 : Int32))), .val (.int (own_i2b x3)), .val (.ref b1), .val (.int (own_m0_233a x0 x1)), .val (.int z)] [(.int (1 : Int32))]))
  refine own_of (fun _ kk => XS.ifNo X34.here hx rfl (hb hby at_389) rfl ((if0 _ _).trans (feq (by decide : ¬ ((1 : Int32) = (0 : Int32)))).1) kk) ?_
  show own_Fin _ _ _ _ _ _ _ (T34.setTop (mkF m 392 #[.val (.long x0), .second, .val (.int x1), .val (.int x2), .val (.int x3), .val (.long (own_lushr (x0 &&& (9223372036854775807 : Int64)) (x1 &&& (63 : Int32)))), .second, .val (.int ((x2 &&& (2147483647 : Int32)) % (8 : Int32))), .val (.int (own_i2b x3)), .val (.ref b1), .val (.int (own_m0_233a x0 x1)), .val (.int z)] []))
  refine own_of (fun _ kk => XS.aload X34.here hx rfl (hb hby at_392) rfl rfl kk) ?_
  show own_Fin _ _ _ _ _ _ _ (T34.setTop (mkF m 394 #[.val (.long x0), .second, .val (.int x1), .val (.int x2), .val (.int x3), .val (.long (own_lushr (x0 &&& (9223372036854775807 : Int64)) (x1 &&& (63 : Int32)))), .second, .val (.int ((x2 &&& (2147483647 : Int32)) % (8 : Int32))), .val (.int (own_i2b x3)), .val (.ref b1), .val (.int (own_m0_233a x0 x1)), .val (.int z)] [(.ref b1)]))
  refine own_of (fun _ kk => XS.bipush X34.here hx rfl (hb hby at_394) kk) ?_
  show own_Fin _ _ _ _ _ _ _ (T34.setTop (mkF m 396 #[.val (.long x0), .second, .val (.int x1), .val (.int x2), .val (.int x3), .val (.long (own_lushr (x0 &&& (9223372036854775807 : Int64)) (x1 &&& (63 : Int32)))), .second, .val (.int ((x2 &&& (2147483647 : Int32)) % (8 : Int32))), .val (.int (own_i2b x3)), .val (.ref b1), .val (.int (own_m0_233a x0 x1)), .val (.int z)] [(.int (8 : Int32)), (.ref b1)]))
  refine own_of (fun _ kk => XS.iload X34.here hx rfl (hb hby at_396) rfl kk) ?_
  show own_Fin _ _ _ _ _ _ _ (T34.setTop (mkF m 398 #[.val (.long x0), .second, .val (.int x1), .val (.int x2), .val (.int x3), .val (.long (own_lushr (x0 &&& (9223372036854775807 : Int64)) (x1 &&& (63 : Int32)))), .second, .val (.int ((x2 &&& (2147483647 : Int32)) % (8 : Int32))), .val (.int (own_i2b x3)), .val (.ref b1), .val (.int (own_m0_233a x0 x1)), .val (.int z)] [(.int ((x2 &&& (2147483647 : Int32)) % (8 : Int32))), (.int (8 : Int32)), (.ref b1)]))
  refine own_of (fun _ kk => XS.lload X34.here hx rfl (hb hby at_398) rfl kk) ?_
  show own_Fin _ _ _ _ _ _ _ (T34.setTop (mkF m 400 #[.val (.long x0), .second, .val (.int x1), .val (.int x2), .val (.int x3), .val (.long (own_lushr (x0 &&& (9223372036854775807 : Int64)) (x1 &&& (63 : Int32)))), .second, .val (.int ((x2 &&& (2147483647 : Int32)) % (8 : Int32))), .val (.int (own_i2b x3)), .val (.ref b1), .val (.int (own_m0_233a x0 x1)), .val (.int z)] [(.long (own_lushr (x0 &&& (9223372036854775807 : Int64)) (x1 &&& (63 : Int32)))), (.int ((x2 &&& (2147483647 : Int32)) % (8 : Int32))), (.int (8 : Int32)), (.ref b1)]))
  refine own_of (fun _ kk => XS.iload X34.here hx rfl (hb hby at_400) rfl kk) ?_
  show own_Fin _ _ _ _ _ _ _ (T34.setTop (mkF m 402 #[.val (.long x0), .second, .val (.int x1), .val (.int x2), .val (.int x3), .val (.long (own_lushr (x0 &&& (9223372036854775807 : Int64)) (x1 &&& (63 : Int32)))), .second, .val (.int ((x2 &&& (2147483647 : Int32)) % (8 : Int32))), .val (.int (own_i2b x3)), .val (.ref b1), .val (.int (own_m0_233a x0 x1)), .val (.int z)] [(.int (own_m0_233a x0 x1)), (.long (own_lushr (x0 &&& (9223372036854775807 : Int64)) (x1 &&& (63 : Int32)))), (.int ((x2 &&& (2147483647 : Int32)) % (8 : Int32))), (.int (8 : Int32)), (.ref b1)]))
  refine own_of (fun _ kk => XS.iload X34.here hx rfl (hb hby at_402) rfl kk) ?_
  show own_Fin _ _ _ _ _ _ _ (T34.setTop (mkF m 404 #[.val (.long x0), .second, .val (.int x1), .val (.int x2), .val (.int x3), .val (.long (own_lushr (x0 &&& (9223372036854775807 : Int64)) (x1 &&& (63 : Int32)))), .second, .val (.int ((x2 &&& (2147483647 : Int32)) % (8 : Int32))), .val (.int (own_i2b x3)), .val (.ref b1), .val (.int (own_m0_233a x0 x1)), .val (.int z)] [(.int (own_i2b x3)), (.int (own_m0_233a x0 x1)), (.long (own_lushr (x0 &&& (9223372036854775807 : Int64)) (x1 &&& (63 : Int32)))), (.int ((x2 &&& (2147483647 : Int32)) % (8 : Int32))), (.int (8 : Int32)), (.ref b1)]))
  refine own_callS X34 hx hZ hown (hw _ (List.mem_of_getElem? (i := 8) rfl)) (hw _ (List.mem_of_getElem? (i := 9) rfl)) (hw _ (List.mem_of_getElem? (i := 10) rfl)) (hw _ (List.mem_of_getElem? (i := 11) rfl)) (by decide) e34 (argsL := [(.ref b1), (.int (8 : Int32)), (.int ((x2 &&& (2147483647 : Int32)) % (8 : Int32))), (.long (own_lushr (x0 &&& (9223372036854775807 : Int64)) (x1 &&& (63 : Int32)))), (.int (own_m0_233a x0 x1)), (.int (own_i2b x3))]) (met2 l Z a0 hw b1 (8 : Int32) ((x2 &&& (2147483647 : Int32)) % (8 : Int32)) (own_lushr (x0 &&& (9223372036854775807 : Int64)) (x1 &&& (63 : Int32))) (own_m0_233a x0 x1) (own_i2b x3) 16 (own_w2 ((x2 &&& (2147483647 : Int32)) % (8 : Int32)).toInt.toNat (own_lushr (x0 &&& (9223372036854775807 : Int64)) (x1 &&& (63 : Int32))) (fun _ => (own_i2b (own_i2b x3))) k) 8 ((own_w2 ((x2 &&& (2147483647 : Int32)) % (8 : Int32)).toInt.toNat (own_lushr (x0 &&& (9223372036854775807 : Int64)) (x1 &&& (63 : Int32))) (fun _ => (own_i2b (own_i2b x3))) k) 8) h26 n0 Z26 A26 (by decide) (by decide) rfl (own_key (own_lushr (x0 &&& (9223372036854775807 : Int64)) (x1 &&& (63 : Int32))) (own_hv x0 x1) ((x2 &&& (2147483647 : Int32)) % (8 : Int32)) (own_m0_233a x0 x1) (own_i2b x3) (8 : Int32) ((x2 &&& (2147483647 : Int32)) % (8 : Int32)).toInt.toNat k 8 (fun _ => (own_i2b (own_i2b x3))) (own_at x2).1 (own_at x2).2 hk hs (by decide) (by decide) hce rfl)) (W := 0) (by decide) (by decide) (by decide) (by decide) (by rw [hml]; rfl) pd_1 rfl (rest := []) rfl (Nat.le_of_eq rfl) (hb hby at_404) ?_
  intro v35 T35 h35 L35 X35 e35 q35
  obtain ⟨rfl, qh35, rfl⟩ := q35
  rw [qh35] at e35
  have N35 := Fr.app N34 (Fr.nil n0)
  show own_Fin _ _ _ _ _ _ _ (T35.setTop (mkF m 407 #[.val (.long x0), .second, .val (.int x1), .val (.int x2), .val (.int x3), .val (.long (own_lushr (x0 &&& (9223372036854775807 : Int64)) (x1 &&& (63 : Int32)))), .second, .val (.int ((x2 &&& (2147483647 : Int32)) % (8 : Int32))), .val (.int (own_i2b x3)), .val (.ref b1), .val (.int (own_m0_233a x0 x1)), .val (.int z)] [(.int (1 : Int32))]))
  refine own_of (fun _ kk => XS.ifNo X35.here hx rfl (hb hby at_407) rfl ((if0 _ _).trans (feq (by decide : ¬ ((1 : Int32) = (0 : Int32)))).1) kk) ?_
  show own_Fin _ _ _ _ _ _ _ (T35.setTop (mkF m 410 #[.val (.long x0), .second, .val (.int x1), .val (.int x2), .val (.int x3), .val (.long (own_lushr (x0 &&& (9223372036854775807 : Int64)) (x1 &&& (63 : Int32)))), .second, .val (.int ((x2 &&& (2147483647 : Int32)) % (8 : Int32))), .val (.int (own_i2b x3)), .val (.ref b1), .val (.int (own_m0_233a x0 x1)), .val (.int z)] []))
  refine own_of (fun _ kk => XS.aload X35.here hx rfl (hb hby at_410) rfl rfl kk) ?_
  show own_Fin _ _ _ _ _ _ _ (T35.setTop (mkF m 412 #[.val (.long x0), .second, .val (.int x1), .val (.int x2), .val (.int x3), .val (.long (own_lushr (x0 &&& (9223372036854775807 : Int64)) (x1 &&& (63 : Int32)))), .second, .val (.int ((x2 &&& (2147483647 : Int32)) % (8 : Int32))), .val (.int (own_i2b x3)), .val (.ref b1), .val (.int (own_m0_233a x0 x1)), .val (.int z)] [(.ref b1)]))
  refine own_of (fun _ kk => XS.bipush X35.here hx rfl (hb hby at_412) kk) ?_
  show own_Fin _ _ _ _ _ _ _ (T35.setTop (mkF m 414 #[.val (.long x0), .second, .val (.int x1), .val (.int x2), .val (.int x3), .val (.long (own_lushr (x0 &&& (9223372036854775807 : Int64)) (x1 &&& (63 : Int32)))), .second, .val (.int ((x2 &&& (2147483647 : Int32)) % (8 : Int32))), .val (.int (own_i2b x3)), .val (.ref b1), .val (.int (own_m0_233a x0 x1)), .val (.int z)] [(.int (9 : Int32)), (.ref b1)]))
  refine own_of (fun _ kk => XS.iload X35.here hx rfl (hb hby at_414) rfl kk) ?_
  show own_Fin _ _ _ _ _ _ _ (T35.setTop (mkF m 416 #[.val (.long x0), .second, .val (.int x1), .val (.int x2), .val (.int x3), .val (.long (own_lushr (x0 &&& (9223372036854775807 : Int64)) (x1 &&& (63 : Int32)))), .second, .val (.int ((x2 &&& (2147483647 : Int32)) % (8 : Int32))), .val (.int (own_i2b x3)), .val (.ref b1), .val (.int (own_m0_233a x0 x1)), .val (.int z)] [(.int ((x2 &&& (2147483647 : Int32)) % (8 : Int32))), (.int (9 : Int32)), (.ref b1)]))
  refine own_of (fun _ kk => XS.lload X35.here hx rfl (hb hby at_416) rfl kk) ?_
  show own_Fin _ _ _ _ _ _ _ (T35.setTop (mkF m 418 #[.val (.long x0), .second, .val (.int x1), .val (.int x2), .val (.int x3), .val (.long (own_lushr (x0 &&& (9223372036854775807 : Int64)) (x1 &&& (63 : Int32)))), .second, .val (.int ((x2 &&& (2147483647 : Int32)) % (8 : Int32))), .val (.int (own_i2b x3)), .val (.ref b1), .val (.int (own_m0_233a x0 x1)), .val (.int z)] [(.long (own_lushr (x0 &&& (9223372036854775807 : Int64)) (x1 &&& (63 : Int32)))), (.int ((x2 &&& (2147483647 : Int32)) % (8 : Int32))), (.int (9 : Int32)), (.ref b1)]))
  refine own_of (fun _ kk => XS.iload X35.here hx rfl (hb hby at_418) rfl kk) ?_
  show own_Fin _ _ _ _ _ _ _ (T35.setTop (mkF m 420 #[.val (.long x0), .second, .val (.int x1), .val (.int x2), .val (.int x3), .val (.long (own_lushr (x0 &&& (9223372036854775807 : Int64)) (x1 &&& (63 : Int32)))), .second, .val (.int ((x2 &&& (2147483647 : Int32)) % (8 : Int32))), .val (.int (own_i2b x3)), .val (.ref b1), .val (.int (own_m0_233a x0 x1)), .val (.int z)] [(.int (own_m0_233a x0 x1)), (.long (own_lushr (x0 &&& (9223372036854775807 : Int64)) (x1 &&& (63 : Int32)))), (.int ((x2 &&& (2147483647 : Int32)) % (8 : Int32))), (.int (9 : Int32)), (.ref b1)]))
  refine own_of (fun _ kk => XS.iload X35.here hx rfl (hb hby at_420) rfl kk) ?_
  show own_Fin _ _ _ _ _ _ _ (T35.setTop (mkF m 422 #[.val (.long x0), .second, .val (.int x1), .val (.int x2), .val (.int x3), .val (.long (own_lushr (x0 &&& (9223372036854775807 : Int64)) (x1 &&& (63 : Int32)))), .second, .val (.int ((x2 &&& (2147483647 : Int32)) % (8 : Int32))), .val (.int (own_i2b x3)), .val (.ref b1), .val (.int (own_m0_233a x0 x1)), .val (.int z)] [(.int (own_i2b x3)), (.int (own_m0_233a x0 x1)), (.long (own_lushr (x0 &&& (9223372036854775807 : Int64)) (x1 &&& (63 : Int32)))), (.int ((x2 &&& (2147483647 : Int32)) % (8 : Int32))), (.int (9 : Int32)), (.ref b1)]))
  refine own_callS X35 hx hZ hown (hw _ (List.mem_of_getElem? (i := 8) rfl)) (hw _ (List.mem_of_getElem? (i := 9) rfl)) (hw _ (List.mem_of_getElem? (i := 10) rfl)) (hw _ (List.mem_of_getElem? (i := 11) rfl)) (by decide) e35 (argsL := [(.ref b1), (.int (9 : Int32)), (.int ((x2 &&& (2147483647 : Int32)) % (8 : Int32))), (.long (own_lushr (x0 &&& (9223372036854775807 : Int64)) (x1 &&& (63 : Int32)))), (.int (own_m0_233a x0 x1)), (.int (own_i2b x3))]) (met2 l Z a0 hw b1 (9 : Int32) ((x2 &&& (2147483647 : Int32)) % (8 : Int32)) (own_lushr (x0 &&& (9223372036854775807 : Int64)) (x1 &&& (63 : Int32))) (own_m0_233a x0 x1) (own_i2b x3) 16 (own_w2 ((x2 &&& (2147483647 : Int32)) % (8 : Int32)).toInt.toNat (own_lushr (x0 &&& (9223372036854775807 : Int64)) (x1 &&& (63 : Int32))) (fun _ => (own_i2b (own_i2b x3))) k) 9 ((own_w2 ((x2 &&& (2147483647 : Int32)) % (8 : Int32)).toInt.toNat (own_lushr (x0 &&& (9223372036854775807 : Int64)) (x1 &&& (63 : Int32))) (fun _ => (own_i2b (own_i2b x3))) k) 9) h26 n0 Z26 A26 (by decide) (by decide) rfl (own_key (own_lushr (x0 &&& (9223372036854775807 : Int64)) (x1 &&& (63 : Int32))) (own_hv x0 x1) ((x2 &&& (2147483647 : Int32)) % (8 : Int32)) (own_m0_233a x0 x1) (own_i2b x3) (9 : Int32) ((x2 &&& (2147483647 : Int32)) % (8 : Int32)).toInt.toNat k 9 (fun _ => (own_i2b (own_i2b x3))) (own_at x2).1 (own_at x2).2 hk hs (by decide) (by decide) hce rfl)) (W := 0) (by decide) (by decide) (by decide) (by decide) (by rw [hml]; rfl) pd_1 rfl (rest := []) rfl (Nat.le_of_eq rfl) (hb hby at_422) ?_
  intro v36 T36 h36 L36 X36 e36 q36
  obtain ⟨rfl, qh36, rfl⟩ := q36
  rw [qh36] at e36
  have N36 := Fr.app N35 (Fr.nil n0)
  show own_Fin _ _ _ _ _ _ _ (T36.setTop (mkF m 425 #[.val (.long x0), .second, .val (.int x1), .val (.int x2), .val (.int x3), .val (.long (own_lushr (x0 &&& (9223372036854775807 : Int64)) (x1 &&& (63 : Int32)))), .second, .val (.int ((x2 &&& (2147483647 : Int32)) % (8 : Int32))), .val (.int (own_i2b x3)), .val (.ref b1), .val (.int (own_m0_233a x0 x1)), .val (.int z)] [(.int (1 : Int32))]))
  refine own_of (fun _ kk => XS.ifNo X36.here hx rfl (hb hby at_425) rfl ((if0 _ _).trans (feq (by decide : ¬ ((1 : Int32) = (0 : Int32)))).1) kk) ?_
  show own_Fin _ _ _ _ _ _ _ (T36.setTop (mkF m 428 #[.val (.long x0), .second, .val (.int x1), .val (.int x2), .val (.int x3), .val (.long (own_lushr (x0 &&& (9223372036854775807 : Int64)) (x1 &&& (63 : Int32)))), .second, .val (.int ((x2 &&& (2147483647 : Int32)) % (8 : Int32))), .val (.int (own_i2b x3)), .val (.ref b1), .val (.int (own_m0_233a x0 x1)), .val (.int z)] []))
  refine own_of (fun _ kk => XS.aload X36.here hx rfl (hb hby at_428) rfl rfl kk) ?_
  show own_Fin _ _ _ _ _ _ _ (T36.setTop (mkF m 430 #[.val (.long x0), .second, .val (.int x1), .val (.int x2), .val (.int x3), .val (.long (own_lushr (x0 &&& (9223372036854775807 : Int64)) (x1 &&& (63 : Int32)))), .second, .val (.int ((x2 &&& (2147483647 : Int32)) % (8 : Int32))), .val (.int (own_i2b x3)), .val (.ref b1), .val (.int (own_m0_233a x0 x1)), .val (.int z)] [(.ref b1)]))
  refine own_of (fun _ kk => XS.bipush X36.here hx rfl (hb hby at_430) kk) ?_
  show own_Fin _ _ _ _ _ _ _ (T36.setTop (mkF m 432 #[.val (.long x0), .second, .val (.int x1), .val (.int x2), .val (.int x3), .val (.long (own_lushr (x0 &&& (9223372036854775807 : Int64)) (x1 &&& (63 : Int32)))), .second, .val (.int ((x2 &&& (2147483647 : Int32)) % (8 : Int32))), .val (.int (own_i2b x3)), .val (.ref b1), .val (.int (own_m0_233a x0 x1)), .val (.int z)] [(.int (10 : Int32)), (.ref b1)]))
  refine own_of (fun _ kk => XS.iload X36.here hx rfl (hb hby at_432) rfl kk) ?_
  show own_Fin _ _ _ _ _ _ _ (T36.setTop (mkF m 434 #[.val (.long x0), .second, .val (.int x1), .val (.int x2), .val (.int x3), .val (.long (own_lushr (x0 &&& (9223372036854775807 : Int64)) (x1 &&& (63 : Int32)))), .second, .val (.int ((x2 &&& (2147483647 : Int32)) % (8 : Int32))), .val (.int (own_i2b x3)), .val (.ref b1), .val (.int (own_m0_233a x0 x1)), .val (.int z)] [(.int ((x2 &&& (2147483647 : Int32)) % (8 : Int32))), (.int (10 : Int32)), (.ref b1)]))
  refine own_of (fun _ kk => XS.lload X36.here hx rfl (hb hby at_434) rfl kk) ?_
  show own_Fin _ _ _ _ _ _ _ (T36.setTop (mkF m 436 #[.val (.long x0), .second, .val (.int x1), .val (.int x2), .val (.int x3), .val (.long (own_lushr (x0 &&& (9223372036854775807 : Int64)) (x1 &&& (63 : Int32)))), .second, .val (.int ((x2 &&& (2147483647 : Int32)) % (8 : Int32))), .val (.int (own_i2b x3)), .val (.ref b1), .val (.int (own_m0_233a x0 x1)), .val (.int z)] [(.long (own_lushr (x0 &&& (9223372036854775807 : Int64)) (x1 &&& (63 : Int32)))), (.int ((x2 &&& (2147483647 : Int32)) % (8 : Int32))), (.int (10 : Int32)), (.ref b1)]))
  refine own_of (fun _ kk => XS.iload X36.here hx rfl (hb hby at_436) rfl kk) ?_
  show own_Fin _ _ _ _ _ _ _ (T36.setTop (mkF m 438 #[.val (.long x0), .second, .val (.int x1), .val (.int x2), .val (.int x3), .val (.long (own_lushr (x0 &&& (9223372036854775807 : Int64)) (x1 &&& (63 : Int32)))), .second, .val (.int ((x2 &&& (2147483647 : Int32)) % (8 : Int32))), .val (.int (own_i2b x3)), .val (.ref b1), .val (.int (own_m0_233a x0 x1)), .val (.int z)] [(.int (own_m0_233a x0 x1)), (.long (own_lushr (x0 &&& (9223372036854775807 : Int64)) (x1 &&& (63 : Int32)))), (.int ((x2 &&& (2147483647 : Int32)) % (8 : Int32))), (.int (10 : Int32)), (.ref b1)]))
  refine own_of (fun _ kk => XS.iload X36.here hx rfl (hb hby at_438) rfl kk) ?_
  show own_Fin _ _ _ _ _ _ _ (T36.setTop (mkF m 440 #[.val (.long x0), .second, .val (.int x1), .val (.int x2), .val (.int x3), .val (.long (own_lushr (x0 &&& (9223372036854775807 : Int64)) (x1 &&& (63 : Int32)))), .second, .val (.int ((x2 &&& (2147483647 : Int32)) % (8 : Int32))), .val (.int (own_i2b x3)), .val (.ref b1), .val (.int (own_m0_233a x0 x1)), .val (.int z)] [(.int (own_i2b x3)), (.int (own_m0_233a x0 x1)), (.long (own_lushr (x0 &&& (9223372036854775807 : Int64)) (x1 &&& (63 : Int32)))), (.int ((x2 &&& (2147483647 : Int32)) % (8 : Int32))), (.int (10 : Int32)), (.ref b1)]))
  refine own_callS X36 hx hZ hown (hw _ (List.mem_of_getElem? (i := 8) rfl)) (hw _ (List.mem_of_getElem? (i := 9) rfl)) (hw _ (List.mem_of_getElem? (i := 10) rfl)) (hw _ (List.mem_of_getElem? (i := 11) rfl)) (by decide) e36 (argsL := [(.ref b1), (.int (10 : Int32)), (.int ((x2 &&& (2147483647 : Int32)) % (8 : Int32))), (.long (own_lushr (x0 &&& (9223372036854775807 : Int64)) (x1 &&& (63 : Int32)))), (.int (own_m0_233a x0 x1)), (.int (own_i2b x3))]) (met2 l Z a0 hw b1 (10 : Int32) ((x2 &&& (2147483647 : Int32)) % (8 : Int32)) (own_lushr (x0 &&& (9223372036854775807 : Int64)) (x1 &&& (63 : Int32))) (own_m0_233a x0 x1) (own_i2b x3) 16 (own_w2 ((x2 &&& (2147483647 : Int32)) % (8 : Int32)).toInt.toNat (own_lushr (x0 &&& (9223372036854775807 : Int64)) (x1 &&& (63 : Int32))) (fun _ => (own_i2b (own_i2b x3))) k) 10 ((own_w2 ((x2 &&& (2147483647 : Int32)) % (8 : Int32)).toInt.toNat (own_lushr (x0 &&& (9223372036854775807 : Int64)) (x1 &&& (63 : Int32))) (fun _ => (own_i2b (own_i2b x3))) k) 10) h26 n0 Z26 A26 (by decide) (by decide) rfl (own_key (own_lushr (x0 &&& (9223372036854775807 : Int64)) (x1 &&& (63 : Int32))) (own_hv x0 x1) ((x2 &&& (2147483647 : Int32)) % (8 : Int32)) (own_m0_233a x0 x1) (own_i2b x3) (10 : Int32) ((x2 &&& (2147483647 : Int32)) % (8 : Int32)).toInt.toNat k 10 (fun _ => (own_i2b (own_i2b x3))) (own_at x2).1 (own_at x2).2 hk hs (by decide) (by decide) hce rfl)) (W := 0) (by decide) (by decide) (by decide) (by decide) (by rw [hml]; rfl) pd_1 rfl (rest := []) rfl (Nat.le_of_eq rfl) (hb hby at_440) ?_
  intro v37 T37 h37 L37 X37 e37 q37
  obtain ⟨rfl, qh37, rfl⟩ := q37
  rw [qh37] at e37
  have N37 := Fr.app N36 (Fr.nil n0)
  show own_Fin _ _ _ _ _ _ _ (T37.setTop (mkF m 443 #[.val (.long x0), .second, .val (.int x1), .val (.int x2), .val (.int x3), .val (.long (own_lushr (x0 &&& (9223372036854775807 : Int64)) (x1 &&& (63 : Int32)))), .second, .val (.int ((x2 &&& (2147483647 : Int32)) % (8 : Int32))), .val (.int (own_i2b x3)), .val (.ref b1), .val (.int (own_m0_233a x0 x1)), .val (.int z)] [(.int (1 : Int32))]))
  refine own_of (fun _ kk => XS.ifNo X37.here hx rfl (hb hby at_443) rfl ((if0 _ _).trans (feq (by decide : ¬ ((1 : Int32) = (0 : Int32)))).1) kk) ?_
  show own_Fin _ _ _ _ _ _ _ (T37.setTop (mkF m 446 #[.val (.long x0), .second, .val (.int x1), .val (.int x2), .val (.int x3), .val (.long (own_lushr (x0 &&& (9223372036854775807 : Int64)) (x1 &&& (63 : Int32)))), .second, .val (.int ((x2 &&& (2147483647 : Int32)) % (8 : Int32))), .val (.int (own_i2b x3)), .val (.ref b1), .val (.int (own_m0_233a x0 x1)), .val (.int z)] []))
  refine own_of (fun _ kk => XS.aload X37.here hx rfl (hb hby at_446) rfl rfl kk) ?_
  show own_Fin _ _ _ _ _ _ _ (T37.setTop (mkF m 448 #[.val (.long x0), .second, .val (.int x1), .val (.int x2), .val (.int x3), .val (.long (own_lushr (x0 &&& (9223372036854775807 : Int64)) (x1 &&& (63 : Int32)))), .second, .val (.int ((x2 &&& (2147483647 : Int32)) % (8 : Int32))), .val (.int (own_i2b x3)), .val (.ref b1), .val (.int (own_m0_233a x0 x1)), .val (.int z)] [(.ref b1)]))
  refine own_of (fun _ kk => XS.bipush X37.here hx rfl (hb hby at_448) kk) ?_
  show own_Fin _ _ _ _ _ _ _ (T37.setTop (mkF m 450 #[.val (.long x0), .second, .val (.int x1), .val (.int x2), .val (.int x3), .val (.long (own_lushr (x0 &&& (9223372036854775807 : Int64)) (x1 &&& (63 : Int32)))), .second, .val (.int ((x2 &&& (2147483647 : Int32)) % (8 : Int32))), .val (.int (own_i2b x3)), .val (.ref b1), .val (.int (own_m0_233a x0 x1)), .val (.int z)] [(.int (11 : Int32)), (.ref b1)]))
  refine own_of (fun _ kk => XS.iload X37.here hx rfl (hb hby at_450) rfl kk) ?_
  show own_Fin _ _ _ _ _ _ _ (T37.setTop (mkF m 452 #[.val (.long x0), .second, .val (.int x1), .val (.int x2), .val (.int x3), .val (.long (own_lushr (x0 &&& (9223372036854775807 : Int64)) (x1 &&& (63 : Int32)))), .second, .val (.int ((x2 &&& (2147483647 : Int32)) % (8 : Int32))), .val (.int (own_i2b x3)), .val (.ref b1), .val (.int (own_m0_233a x0 x1)), .val (.int z)] [(.int ((x2 &&& (2147483647 : Int32)) % (8 : Int32))), (.int (11 : Int32)), (.ref b1)]))
  refine own_of (fun _ kk => XS.lload X37.here hx rfl (hb hby at_452) rfl kk) ?_
  show own_Fin _ _ _ _ _ _ _ (T37.setTop (mkF m 454 #[.val (.long x0), .second, .val (.int x1), .val (.int x2), .val (.int x3), .val (.long (own_lushr (x0 &&& (9223372036854775807 : Int64)) (x1 &&& (63 : Int32)))), .second, .val (.int ((x2 &&& (2147483647 : Int32)) % (8 : Int32))), .val (.int (own_i2b x3)), .val (.ref b1), .val (.int (own_m0_233a x0 x1)), .val (.int z)] [(.long (own_lushr (x0 &&& (9223372036854775807 : Int64)) (x1 &&& (63 : Int32)))), (.int ((x2 &&& (2147483647 : Int32)) % (8 : Int32))), (.int (11 : Int32)), (.ref b1)]))
  refine own_of (fun _ kk => XS.iload X37.here hx rfl (hb hby at_454) rfl kk) ?_
  show own_Fin _ _ _ _ _ _ _ (T37.setTop (mkF m 456 #[.val (.long x0), .second, .val (.int x1), .val (.int x2), .val (.int x3), .val (.long (own_lushr (x0 &&& (9223372036854775807 : Int64)) (x1 &&& (63 : Int32)))), .second, .val (.int ((x2 &&& (2147483647 : Int32)) % (8 : Int32))), .val (.int (own_i2b x3)), .val (.ref b1), .val (.int (own_m0_233a x0 x1)), .val (.int z)] [(.int (own_m0_233a x0 x1)), (.long (own_lushr (x0 &&& (9223372036854775807 : Int64)) (x1 &&& (63 : Int32)))), (.int ((x2 &&& (2147483647 : Int32)) % (8 : Int32))), (.int (11 : Int32)), (.ref b1)]))
  refine own_of (fun _ kk => XS.iload X37.here hx rfl (hb hby at_456) rfl kk) ?_
  show own_Fin _ _ _ _ _ _ _ (T37.setTop (mkF m 458 #[.val (.long x0), .second, .val (.int x1), .val (.int x2), .val (.int x3), .val (.long (own_lushr (x0 &&& (9223372036854775807 : Int64)) (x1 &&& (63 : Int32)))), .second, .val (.int ((x2 &&& (2147483647 : Int32)) % (8 : Int32))), .val (.int (own_i2b x3)), .val (.ref b1), .val (.int (own_m0_233a x0 x1)), .val (.int z)] [(.int (own_i2b x3)), (.int (own_m0_233a x0 x1)), (.long (own_lushr (x0 &&& (9223372036854775807 : Int64)) (x1 &&& (63 : Int32)))), (.int ((x2 &&& (2147483647 : Int32)) % (8 : Int32))), (.int (11 : Int32)), (.ref b1)]))
  refine own_callS X37 hx hZ hown (hw _ (List.mem_of_getElem? (i := 8) rfl)) (hw _ (List.mem_of_getElem? (i := 9) rfl)) (hw _ (List.mem_of_getElem? (i := 10) rfl)) (hw _ (List.mem_of_getElem? (i := 11) rfl)) (by decide) e37 (argsL := [(.ref b1), (.int (11 : Int32)), (.int ((x2 &&& (2147483647 : Int32)) % (8 : Int32))), (.long (own_lushr (x0 &&& (9223372036854775807 : Int64)) (x1 &&& (63 : Int32)))), (.int (own_m0_233a x0 x1)), (.int (own_i2b x3))]) (met2 l Z a0 hw b1 (11 : Int32) ((x2 &&& (2147483647 : Int32)) % (8 : Int32)) (own_lushr (x0 &&& (9223372036854775807 : Int64)) (x1 &&& (63 : Int32))) (own_m0_233a x0 x1) (own_i2b x3) 16 (own_w2 ((x2 &&& (2147483647 : Int32)) % (8 : Int32)).toInt.toNat (own_lushr (x0 &&& (9223372036854775807 : Int64)) (x1 &&& (63 : Int32))) (fun _ => (own_i2b (own_i2b x3))) k) 11 ((own_w2 ((x2 &&& (2147483647 : Int32)) % (8 : Int32)).toInt.toNat (own_lushr (x0 &&& (9223372036854775807 : Int64)) (x1 &&& (63 : Int32))) (fun _ => (own_i2b (own_i2b x3))) k) 11) h26 n0 Z26 A26 (by decide) (by decide) rfl (own_key (own_lushr (x0 &&& (9223372036854775807 : Int64)) (x1 &&& (63 : Int32))) (own_hv x0 x1) ((x2 &&& (2147483647 : Int32)) % (8 : Int32)) (own_m0_233a x0 x1) (own_i2b x3) (11 : Int32) ((x2 &&& (2147483647 : Int32)) % (8 : Int32)).toInt.toNat k 11 (fun _ => (own_i2b (own_i2b x3))) (own_at x2).1 (own_at x2).2 hk hs (by decide) (by decide) hce rfl)) (W := 0) (by decide) (by decide) (by decide) (by decide) (by rw [hml]; rfl) pd_1 rfl (rest := []) rfl (Nat.le_of_eq rfl) (hb hby at_458) ?_
  intro v38 T38 h38 L38 X38 e38 q38
  obtain ⟨rfl, qh38, rfl⟩ := q38
  rw [qh38] at e38
  have N38 := Fr.app N37 (Fr.nil n0)
  show own_Fin _ _ _ _ _ _ _ (T38.setTop (mkF m 461 #[.val (.long x0), .second, .val (.int x1), .val (.int x2), .val (.int x3), .val (.long (own_lushr (x0 &&& (9223372036854775807 : Int64)) (x1 &&& (63 : Int32)))), .second, .val (.int ((x2 &&& (2147483647 : Int32)) % (8 : Int32))), .val (.int (own_i2b x3)), .val (.ref b1), .val (.int (own_m0_233a x0 x1)), .val (.int z)] [(.int (1 : Int32))]))
  refine own_of (fun _ kk => XS.ifNo X38.here hx rfl (hb hby at_461) rfl ((if0 _ _).trans (feq (by decide : ¬ ((1 : Int32) = (0 : Int32)))).1) kk) ?_
  show own_Fin _ _ _ _ _ _ _ (T38.setTop (mkF m 464 #[.val (.long x0), .second, .val (.int x1), .val (.int x2), .val (.int x3), .val (.long (own_lushr (x0 &&& (9223372036854775807 : Int64)) (x1 &&& (63 : Int32)))), .second, .val (.int ((x2 &&& (2147483647 : Int32)) % (8 : Int32))), .val (.int (own_i2b x3)), .val (.ref b1), .val (.int (own_m0_233a x0 x1)), .val (.int z)] []))
  refine own_of (fun _ kk => XS.aload X38.here hx rfl (hb hby at_464) rfl rfl kk) ?_
  show own_Fin _ _ _ _ _ _ _ (T38.setTop (mkF m 466 #[.val (.long x0), .second, .val (.int x1), .val (.int x2), .val (.int x3), .val (.long (own_lushr (x0 &&& (9223372036854775807 : Int64)) (x1 &&& (63 : Int32)))), .second, .val (.int ((x2 &&& (2147483647 : Int32)) % (8 : Int32))), .val (.int (own_i2b x3)), .val (.ref b1), .val (.int (own_m0_233a x0 x1)), .val (.int z)] [(.ref b1)]))
  refine own_of (fun _ kk => XS.bipush X38.here hx rfl (hb hby at_466) kk) ?_
  show own_Fin _ _ _ _ _ _ _ (T38.setTop (mkF m 468 #[.val (.long x0), .second, .val (.int x1), .val (.int x2), .val (.int x3), .val (.long (own_lushr (x0 &&& (9223372036854775807 : Int64)) (x1 &&& (63 : Int32)))), .second, .val (.int ((x2 &&& (2147483647 : Int32)) % (8 : Int32))), .val (.int (own_i2b x3)), .val (.ref b1), .val (.int (own_m0_233a x0 x1)), .val (.int z)] [(.int (12 : Int32)), (.ref b1)]))
  refine own_of (fun _ kk => XS.iload X38.here hx rfl (hb hby at_468) rfl kk) ?_
  show own_Fin _ _ _ _ _ _ _ (T38.setTop (mkF m 470 #[.val (.long x0), .second, .val (.int x1), .val (.int x2), .val (.int x3), .val (.long (own_lushr (x0 &&& (9223372036854775807 : Int64)) (x1 &&& (63 : Int32)))), .second, .val (.int ((x2 &&& (2147483647 : Int32)) % (8 : Int32))), .val (.int (own_i2b x3)), .val (.ref b1), .val (.int (own_m0_233a x0 x1)), .val (.int z)] [(.int ((x2 &&& (2147483647 : Int32)) % (8 : Int32))), (.int (12 : Int32)), (.ref b1)]))
  refine own_of (fun _ kk => XS.lload X38.here hx rfl (hb hby at_470) rfl kk) ?_
  show own_Fin _ _ _ _ _ _ _ (T38.setTop (mkF m 472 #[.val (.long x0), .second, .val (.int x1), .val (.int x2), .val (.int x3), .val (.long (own_lushr (x0 &&& (9223372036854775807 : Int64)) (x1 &&& (63 : Int32)))), .second, .val (.int ((x2 &&& (2147483647 : Int32)) % (8 : Int32))), .val (.int (own_i2b x3)), .val (.ref b1), .val (.int (own_m0_233a x0 x1)), .val (.int z)] [(.long (own_lushr (x0 &&& (9223372036854775807 : Int64)) (x1 &&& (63 : Int32)))), (.int ((x2 &&& (2147483647 : Int32)) % (8 : Int32))), (.int (12 : Int32)), (.ref b1)]))
  refine own_of (fun _ kk => XS.iload X38.here hx rfl (hb hby at_472) rfl kk) ?_
  show own_Fin _ _ _ _ _ _ _ (T38.setTop (mkF m 474 #[.val (.long x0), .second, .val (.int x1), .val (.int x2), .val (.int x3), .val (.long (own_lushr (x0 &&& (9223372036854775807 : Int64)) (x1 &&& (63 : Int32)))), .second, .val (.int ((x2 &&& (2147483647 : Int32)) % (8 : Int32))), .val (.int (own_i2b x3)), .val (.ref b1), .val (.int (own_m0_233a x0 x1)), .val (.int z)] [(.int (own_m0_233a x0 x1)), (.long (own_lushr (x0 &&& (9223372036854775807 : Int64)) (x1 &&& (63 : Int32)))), (.int ((x2 &&& (2147483647 : Int32)) % (8 : Int32))), (.int (12 : Int32)), (.ref b1)]))
  refine own_of (fun _ kk => XS.iload X38.here hx rfl (hb hby at_474) rfl kk) ?_
  show own_Fin _ _ _ _ _ _ _ (T38.setTop (mkF m 476 #[.val (.long x0), .second, .val (.int x1), .val (.int x2), .val (.int x3), .val (.long (own_lushr (x0 &&& (9223372036854775807 : Int64)) (x1 &&& (63 : Int32)))), .second, .val (.int ((x2 &&& (2147483647 : Int32)) % (8 : Int32))), .val (.int (own_i2b x3)), .val (.ref b1), .val (.int (own_m0_233a x0 x1)), .val (.int z)] [(.int (own_i2b x3)), (.int (own_m0_233a x0 x1)), (.long (own_lushr (x0 &&& (9223372036854775807 : Int64)) (x1 &&& (63 : Int32)))), (.int ((x2 &&& (2147483647 : Int32)) % (8 : Int32))), (.int (12 : Int32)), (.ref b1)]))
  refine own_callS X38 hx hZ hown (hw _ (List.mem_of_getElem? (i := 8) rfl)) (hw _ (List.mem_of_getElem? (i := 9) rfl)) (hw _ (List.mem_of_getElem? (i := 10) rfl)) (hw _ (List.mem_of_getElem? (i := 11) rfl)) (by decide) e38 (argsL := [(.ref b1), (.int (12 : Int32)), (.int ((x2 &&& (2147483647 : Int32)) % (8 : Int32))), (.long (own_lushr (x0 &&& (9223372036854775807 : Int64)) (x1 &&& (63 : Int32)))), (.int (own_m0_233a x0 x1)), (.int (own_i2b x3))]) (met2 l Z a0 hw b1 (12 : Int32) ((x2 &&& (2147483647 : Int32)) % (8 : Int32)) (own_lushr (x0 &&& (9223372036854775807 : Int64)) (x1 &&& (63 : Int32))) (own_m0_233a x0 x1) (own_i2b x3) 16 (own_w2 ((x2 &&& (2147483647 : Int32)) % (8 : Int32)).toInt.toNat (own_lushr (x0 &&& (9223372036854775807 : Int64)) (x1 &&& (63 : Int32))) (fun _ => (own_i2b (own_i2b x3))) k) 12 ((own_w2 ((x2 &&& (2147483647 : Int32)) % (8 : Int32)).toInt.toNat (own_lushr (x0 &&& (9223372036854775807 : Int64)) (x1 &&& (63 : Int32))) (fun _ => (own_i2b (own_i2b x3))) k) 12) h26 n0 Z26 A26 (by decide) (by decide) rfl (own_key (own_lushr (x0 &&& (9223372036854775807 : Int64)) (x1 &&& (63 : Int32))) (own_hv x0 x1) ((x2 &&& (2147483647 : Int32)) % (8 : Int32)) (own_m0_233a x0 x1) (own_i2b x3) (12 : Int32) ((x2 &&& (2147483647 : Int32)) % (8 : Int32)).toInt.toNat k 12 (fun _ => (own_i2b (own_i2b x3))) (own_at x2).1 (own_at x2).2 hk hs (by decide) (by decide) hce rfl)) (W := 0) (by decide) (by decide) (by decide) (by decide) (by rw [hml]; rfl) pd_1 rfl (rest := []) rfl (Nat.le_of_eq rfl) (hb hby at_476) ?_
  intro v39 T39 h39 L39 X39 e39 q39
  obtain ⟨rfl, qh39, rfl⟩ := q39
  rw [qh39] at e39
  have N39 := Fr.app N38 (Fr.nil n0)
  show own_Fin _ _ _ _ _ _ _ (T39.setTop (mkF m 479 #[.val (.long x0), .second, .val (.int x1), .val (.int x2), .val (.int x3), .val (.long (own_lushr (x0 &&& (9223372036854775807 : Int64)) (x1 &&& (63 : Int32)))), .second, .val (.int ((x2 &&& (2147483647 : Int32)) % (8 : Int32))), .val (.int (own_i2b x3)), .val (.ref b1), .val (.int (own_m0_233a x0 x1)), .val (.int z)] [(.int (1 : Int32))]))
  refine own_of (fun _ kk => XS.ifNo X39.here hx rfl (hb hby at_479) rfl ((if0 _ _).trans (feq (by decide : ¬ ((1 : Int32) = (0 : Int32)))).1) kk) ?_
  show own_Fin _ _ _ _ _ _ _ (T39.setTop (mkF m 482 #[.val (.long x0), .second, .val (.int x1), .val (.int x2), .val (.int x3), .val (.long (own_lushr (x0 &&& (9223372036854775807 : Int64)) (x1 &&& (63 : Int32)))), .second, .val (.int ((x2 &&& (2147483647 : Int32)) % (8 : Int32))), .val (.int (own_i2b x3)), .val (.ref b1), .val (.int (own_m0_233a x0 x1)), .val (.int z)] []))
  refine own_of (fun _ kk => XS.aload X39.here hx rfl (hb hby at_482) rfl rfl kk) ?_
  show own_Fin _ _ _ _ _ _ _ (T39.setTop (mkF m 484 #[.val (.long x0), .second, .val (.int x1), .val (.int x2), .val (.int x3), .val (.long (own_lushr (x0 &&& (9223372036854775807 : Int64)) (x1 &&& (63 : Int32)))), .second, .val (.int ((x2 &&& (2147483647 : Int32)) % (8 : Int32))), .val (.int (own_i2b x3)), .val (.ref b1), .val (.int (own_m0_233a x0 x1)), .val (.int z)] [(.ref b1)]))
  refine own_of (fun _ kk => XS.bipush X39.here hx rfl (hb hby at_484) kk) ?_
  show own_Fin _ _ _ _ _ _ _ (T39.setTop (mkF m 486 #[.val (.long x0), .second, .val (.int x1), .val (.int x2), .val (.int x3), .val (.long (own_lushr (x0 &&& (9223372036854775807 : Int64)) (x1 &&& (63 : Int32)))), .second, .val (.int ((x2 &&& (2147483647 : Int32)) % (8 : Int32))), .val (.int (own_i2b x3)), .val (.ref b1), .val (.int (own_m0_233a x0 x1)), .val (.int z)] [(.int (13 : Int32)), (.ref b1)]))
  refine own_of (fun _ kk => XS.iload X39.here hx rfl (hb hby at_486) rfl kk) ?_
  show own_Fin _ _ _ _ _ _ _ (T39.setTop (mkF m 488 #[.val (.long x0), .second, .val (.int x1), .val (.int x2), .val (.int x3), .val (.long (own_lushr (x0 &&& (9223372036854775807 : Int64)) (x1 &&& (63 : Int32)))), .second, .val (.int ((x2 &&& (2147483647 : Int32)) % (8 : Int32))), .val (.int (own_i2b x3)), .val (.ref b1), .val (.int (own_m0_233a x0 x1)), .val (.int z)] [(.int ((x2 &&& (2147483647 : Int32)) % (8 : Int32))), (.int (13 : Int32)), (.ref b1)]))
  refine own_of (fun _ kk => XS.lload X39.here hx rfl (hb hby at_488) rfl kk) ?_
  show own_Fin _ _ _ _ _ _ _ (T39.setTop (mkF m 490 #[.val (.long x0), .second, .val (.int x1), .val (.int x2), .val (.int x3), .val (.long (own_lushr (x0 &&& (9223372036854775807 : Int64)) (x1 &&& (63 : Int32)))), .second, .val (.int ((x2 &&& (2147483647 : Int32)) % (8 : Int32))), .val (.int (own_i2b x3)), .val (.ref b1), .val (.int (own_m0_233a x0 x1)), .val (.int z)] [(.long (own_lushr (x0 &&& (9223372036854775807 : Int64)) (x1 &&& (63 : Int32)))), (.int ((x2 &&& (2147483647 : Int32)) % (8 : Int32))), (.int (13 : Int32)), (.ref b1)]))
  refine own_of (fun _ kk => XS.iload X39.here hx rfl (hb hby at_490) rfl kk) ?_
  show own_Fin _ _ _ _ _ _ _ (T39.setTop (mkF m 492 #[.val (.long x0), .second, .val (.int x1), .val (.int x2), .val (.int x3), .val (.long (own_lushr (x0 &&& (9223372036854775807 : Int64)) (x1 &&& (63 : Int32)))), .second, .val (.int ((x2 &&& (2147483647 : Int32)) % (8 : Int32))), .val (.int (own_i2b x3)), .val (.ref b1), .val (.int (own_m0_233a x0 x1)), .val (.int z)] [(.int (own_m0_233a x0 x1)), (.long (own_lushr (x0 &&& (9223372036854775807 : Int64)) (x1 &&& (63 : Int32)))), (.int ((x2 &&& (2147483647 : Int32)) % (8 : Int32))), (.int (13 : Int32)), (.ref b1)]))
  refine own_of (fun _ kk => XS.iload X39.here hx rfl (hb hby at_492) rfl kk) ?_
  show own_Fin _ _ _ _ _ _ _ (T39.setTop (mkF m 494 #[.val (.long x0), .second, .val (.int x1), .val (.int x2), .val (.int x3), .val (.long (own_lushr (x0 &&& (9223372036854775807 : Int64)) (x1 &&& (63 : Int32)))), .second, .val (.int ((x2 &&& (2147483647 : Int32)) % (8 : Int32))), .val (.int (own_i2b x3)), .val (.ref b1), .val (.int (own_m0_233a x0 x1)), .val (.int z)] [(.int (own_i2b x3)), (.int (own_m0_233a x0 x1)), (.long (own_lushr (x0 &&& (9223372036854775807 : Int64)) (x1 &&& (63 : Int32)))), (.int ((x2 &&& (2147483647 : Int32)) % (8 : Int32))), (.int (13 : Int32)), (.ref b1)]))
  refine own_callS X39 hx hZ hown (hw _ (List.mem_of_getElem? (i := 8) rfl)) (hw _ (List.mem_of_getElem? (i := 9) rfl)) (hw _ (List.mem_of_getElem? (i := 10) rfl)) (hw _ (List.mem_of_getElem? (i := 11) rfl)) (by decide) e39 (argsL := [(.ref b1), (.int (13 : Int32)), (.int ((x2 &&& (2147483647 : Int32)) % (8 : Int32))), (.long (own_lushr (x0 &&& (9223372036854775807 : Int64)) (x1 &&& (63 : Int32)))), (.int (own_m0_233a x0 x1)), (.int (own_i2b x3))]) (met2 l Z a0 hw b1 (13 : Int32) ((x2 &&& (2147483647 : Int32)) % (8 : Int32)) (own_lushr (x0 &&& (9223372036854775807 : Int64)) (x1 &&& (63 : Int32))) (own_m0_233a x0 x1) (own_i2b x3) 16 (own_w2 ((x2 &&& (2147483647 : Int32)) % (8 : Int32)).toInt.toNat (own_lushr (x0 &&& (9223372036854775807 : Int64)) (x1 &&& (63 : Int32))) (fun _ => (own_i2b (own_i2b x3))) k) 13 ((own_w2 ((x2 &&& (2147483647 : Int32)) % (8 : Int32)).toInt.toNat (own_lushr (x0 &&& (9223372036854775807 : Int64)) (x1 &&& (63 : Int32))) (fun _ => (own_i2b (own_i2b x3))) k) 13) h26 n0 Z26 A26 (by decide) (by decide) rfl (own_key (own_lushr (x0 &&& (9223372036854775807 : Int64)) (x1 &&& (63 : Int32))) (own_hv x0 x1) ((x2 &&& (2147483647 : Int32)) % (8 : Int32)) (own_m0_233a x0 x1) (own_i2b x3) (13 : Int32) ((x2 &&& (2147483647 : Int32)) % (8 : Int32)).toInt.toNat k 13 (fun _ => (own_i2b (own_i2b x3))) (own_at x2).1 (own_at x2).2 hk hs (by decide) (by decide) hce rfl)) (W := 0) (by decide) (by decide) (by decide) (by decide) (by rw [hml]; rfl) pd_1 rfl (rest := []) rfl (Nat.le_of_eq rfl) (hb hby at_494) ?_
  intro v40 T40 h40 L40 X40 e40 q40
  obtain ⟨rfl, qh40, rfl⟩ := q40
  rw [qh40] at e40
  have N40 := Fr.app N39 (Fr.nil n0)
  show own_Fin _ _ _ _ _ _ _ (T40.setTop (mkF m 497 #[.val (.long x0), .second, .val (.int x1), .val (.int x2), .val (.int x3), .val (.long (own_lushr (x0 &&& (9223372036854775807 : Int64)) (x1 &&& (63 : Int32)))), .second, .val (.int ((x2 &&& (2147483647 : Int32)) % (8 : Int32))), .val (.int (own_i2b x3)), .val (.ref b1), .val (.int (own_m0_233a x0 x1)), .val (.int z)] [(.int (1 : Int32))]))
  refine own_of (fun _ kk => XS.ifNo X40.here hx rfl (hb hby at_497) rfl ((if0 _ _).trans (feq (by decide : ¬ ((1 : Int32) = (0 : Int32)))).1) kk) ?_
  show own_Fin _ _ _ _ _ _ _ (T40.setTop (mkF m 500 #[.val (.long x0), .second, .val (.int x1), .val (.int x2), .val (.int x3), .val (.long (own_lushr (x0 &&& (9223372036854775807 : Int64)) (x1 &&& (63 : Int32)))), .second, .val (.int ((x2 &&& (2147483647 : Int32)) % (8 : Int32))), .val (.int (own_i2b x3)), .val (.ref b1), .val (.int (own_m0_233a x0 x1)), .val (.int z)] []))
  refine own_of (fun _ kk => XS.aload X40.here hx rfl (hb hby at_500) rfl rfl kk) ?_
  show own_Fin _ _ _ _ _ _ _ (T40.setTop (mkF m 502 #[.val (.long x0), .second, .val (.int x1), .val (.int x2), .val (.int x3), .val (.long (own_lushr (x0 &&& (9223372036854775807 : Int64)) (x1 &&& (63 : Int32)))), .second, .val (.int ((x2 &&& (2147483647 : Int32)) % (8 : Int32))), .val (.int (own_i2b x3)), .val (.ref b1), .val (.int (own_m0_233a x0 x1)), .val (.int z)] [(.ref b1)]))
  refine own_of (fun _ kk => XS.bipush X40.here hx rfl (hb hby at_502) kk) ?_
  show own_Fin _ _ _ _ _ _ _ (T40.setTop (mkF m 504 #[.val (.long x0), .second, .val (.int x1), .val (.int x2), .val (.int x3), .val (.long (own_lushr (x0 &&& (9223372036854775807 : Int64)) (x1 &&& (63 : Int32)))), .second, .val (.int ((x2 &&& (2147483647 : Int32)) % (8 : Int32))), .val (.int (own_i2b x3)), .val (.ref b1), .val (.int (own_m0_233a x0 x1)), .val (.int z)] [(.int (14 : Int32)), (.ref b1)]))
  refine own_of (fun _ kk => XS.iload X40.here hx rfl (hb hby at_504) rfl kk) ?_
  show own_Fin _ _ _ _ _ _ _ (T40.setTop (mkF m 506 #[.val (.long x0), .second, .val (.int x1), .val (.int x2), .val (.int x3), .val (.long (own_lushr (x0 &&& (9223372036854775807 : Int64)) (x1 &&& (63 : Int32)))), .second, .val (.int ((x2 &&& (2147483647 : Int32)) % (8 : Int32))), .val (.int (own_i2b x3)), .val (.ref b1), .val (.int (own_m0_233a x0 x1)), .val (.int z)] [(.int ((x2 &&& (2147483647 : Int32)) % (8 : Int32))), (.int (14 : Int32)), (.ref b1)]))
  refine own_of (fun _ kk => XS.lload X40.here hx rfl (hb hby at_506) rfl kk) ?_
  show own_Fin _ _ _ _ _ _ _ (T40.setTop (mkF m 508 #[.val (.long x0), .second, .val (.int x1), .val (.int x2), .val (.int x3), .val (.long (own_lushr (x0 &&& (9223372036854775807 : Int64)) (x1 &&& (63 : Int32)))), .second, .val (.int ((x2 &&& (2147483647 : Int32)) % (8 : Int32))), .val (.int (own_i2b x3)), .val (.ref b1), .val (.int (own_m0_233a x0 x1)), .val (.int z)] [(.long (own_lushr (x0 &&& (9223372036854775807 : Int64)) (x1 &&& (63 : Int32)))), (.int ((x2 &&& (2147483647 : Int32)) % (8 : Int32))), (.int (14 : Int32)), (.ref b1)]))
  refine own_of (fun _ kk => XS.iload X40.here hx rfl (hb hby at_508) rfl kk) ?_
  show own_Fin _ _ _ _ _ _ _ (T40.setTop (mkF m 510 #[.val (.long x0), .second, .val (.int x1), .val (.int x2), .val (.int x3), .val (.long (own_lushr (x0 &&& (9223372036854775807 : Int64)) (x1 &&& (63 : Int32)))), .second, .val (.int ((x2 &&& (2147483647 : Int32)) % (8 : Int32))), .val (.int (own_i2b x3)), .val (.ref b1), .val (.int (own_m0_233a x0 x1)), .val (.int z)] [(.int (own_m0_233a x0 x1)), (.long (own_lushr (x0 &&& (9223372036854775807 : Int64)) (x1 &&& (63 : Int32)))), (.int ((x2 &&& (2147483647 : Int32)) % (8 : Int32))), (.int (14 : Int32)), (.ref b1)]))
  refine own_of (fun _ kk => XS.iload X40.here hx rfl (hb hby at_510) rfl kk) ?_
  show own_Fin _ _ _ _ _ _ _ (T40.setTop (mkF m 512 #[.val (.long x0), .second, .val (.int x1), .val (.int x2), .val (.int x3), .val (.long (own_lushr (x0 &&& (9223372036854775807 : Int64)) (x1 &&& (63 : Int32)))), .second, .val (.int ((x2 &&& (2147483647 : Int32)) % (8 : Int32))), .val (.int (own_i2b x3)), .val (.ref b1), .val (.int (own_m0_233a x0 x1)), .val (.int z)] [(.int (own_i2b x3)), (.int (own_m0_233a x0 x1)), (.long (own_lushr (x0 &&& (9223372036854775807 : Int64)) (x1 &&& (63 : Int32)))), (.int ((x2 &&& (2147483647 : Int32)) % (8 : Int32))), (.int (14 : Int32)), (.ref b1)]))
  refine own_callS X40 hx hZ hown (hw _ (List.mem_of_getElem? (i := 8) rfl)) (hw _ (List.mem_of_getElem? (i := 9) rfl)) (hw _ (List.mem_of_getElem? (i := 10) rfl)) (hw _ (List.mem_of_getElem? (i := 11) rfl)) (by decide) e40 (argsL := [(.ref b1), (.int (14 : Int32)), (.int ((x2 &&& (2147483647 : Int32)) % (8 : Int32))), (.long (own_lushr (x0 &&& (9223372036854775807 : Int64)) (x1 &&& (63 : Int32)))), (.int (own_m0_233a x0 x1)), (.int (own_i2b x3))]) (met2 l Z a0 hw b1 (14 : Int32) ((x2 &&& (2147483647 : Int32)) % (8 : Int32)) (own_lushr (x0 &&& (9223372036854775807 : Int64)) (x1 &&& (63 : Int32))) (own_m0_233a x0 x1) (own_i2b x3) 16 (own_w2 ((x2 &&& (2147483647 : Int32)) % (8 : Int32)).toInt.toNat (own_lushr (x0 &&& (9223372036854775807 : Int64)) (x1 &&& (63 : Int32))) (fun _ => (own_i2b (own_i2b x3))) k) 14 ((own_w2 ((x2 &&& (2147483647 : Int32)) % (8 : Int32)).toInt.toNat (own_lushr (x0 &&& (9223372036854775807 : Int64)) (x1 &&& (63 : Int32))) (fun _ => (own_i2b (own_i2b x3))) k) 14) h26 n0 Z26 A26 (by decide) (by decide) rfl (own_key (own_lushr (x0 &&& (9223372036854775807 : Int64)) (x1 &&& (63 : Int32))) (own_hv x0 x1) ((x2 &&& (2147483647 : Int32)) % (8 : Int32)) (own_m0_233a x0 x1) (own_i2b x3) (14 : Int32) ((x2 &&& (2147483647 : Int32)) % (8 : Int32)).toInt.toNat k 14 (fun _ => (own_i2b (own_i2b x3))) (own_at x2).1 (own_at x2).2 hk hs (by decide) (by decide) hce rfl)) (W := 0) (by decide) (by decide) (by decide) (by decide) (by rw [hml]; rfl) pd_1 rfl (rest := []) rfl (Nat.le_of_eq rfl) (hb hby at_512) ?_
  intro v41 T41 h41 L41 X41 e41 q41
  obtain ⟨rfl, qh41, rfl⟩ := q41
  rw [qh41] at e41
  have N41 := Fr.app N40 (Fr.nil n0)
  show own_Fin _ _ _ _ _ _ _ (T41.setTop (mkF m 515 #[.val (.long x0), .second, .val (.int x1), .val (.int x2), .val (.int x3), .val (.long (own_lushr (x0 &&& (9223372036854775807 : Int64)) (x1 &&& (63 : Int32)))), .second, .val (.int ((x2 &&& (2147483647 : Int32)) % (8 : Int32))), .val (.int (own_i2b x3)), .val (.ref b1), .val (.int (own_m0_233a x0 x1)), .val (.int z)] [(.int (1 : Int32))]))
  refine own_of (fun _ kk => XS.ifNo X41.here hx rfl (hb hby at_515) rfl ((if0 _ _).trans (feq (by decide : ¬ ((1 : Int32) = (0 : Int32)))).1) kk) ?_
  show own_Fin _ _ _ _ _ _ _ (T41.setTop (mkF m 518 #[.val (.long x0), .second, .val (.int x1), .val (.int x2), .val (.int x3), .val (.long (own_lushr (x0 &&& (9223372036854775807 : Int64)) (x1 &&& (63 : Int32)))), .second, .val (.int ((x2 &&& (2147483647 : Int32)) % (8 : Int32))), .val (.int (own_i2b x3)), .val (.ref b1), .val (.int (own_m0_233a x0 x1)), .val (.int z)] []))
  refine own_of (fun _ kk => XS.aload X41.here hx rfl (hb hby at_518) rfl rfl kk) ?_
  show own_Fin _ _ _ _ _ _ _ (T41.setTop (mkF m 520 #[.val (.long x0), .second, .val (.int x1), .val (.int x2), .val (.int x3), .val (.long (own_lushr (x0 &&& (9223372036854775807 : Int64)) (x1 &&& (63 : Int32)))), .second, .val (.int ((x2 &&& (2147483647 : Int32)) % (8 : Int32))), .val (.int (own_i2b x3)), .val (.ref b1), .val (.int (own_m0_233a x0 x1)), .val (.int z)] [(.ref b1)]))
  refine own_of (fun _ kk => XS.bipush X41.here hx rfl (hb hby at_520) kk) ?_
  show own_Fin _ _ _ _ _ _ _ (T41.setTop (mkF m 522 #[.val (.long x0), .second, .val (.int x1), .val (.int x2), .val (.int x3), .val (.long (own_lushr (x0 &&& (9223372036854775807 : Int64)) (x1 &&& (63 : Int32)))), .second, .val (.int ((x2 &&& (2147483647 : Int32)) % (8 : Int32))), .val (.int (own_i2b x3)), .val (.ref b1), .val (.int (own_m0_233a x0 x1)), .val (.int z)] [(.int (15 : Int32)), (.ref b1)]))
  refine own_of (fun _ kk => XS.iload X41.here hx rfl (hb hby at_522) rfl kk) ?_
  show own_Fin _ _ _ _ _ _ _ (T41.setTop (mkF m 524 #[.val (.long x0), .second, .val (.int x1), .val (.int x2), .val (.int x3), .val (.long (own_lushr (x0 &&& (9223372036854775807 : Int64)) (x1 &&& (63 : Int32)))), .second, .val (.int ((x2 &&& (2147483647 : Int32)) % (8 : Int32))), .val (.int (own_i2b x3)), .val (.ref b1), .val (.int (own_m0_233a x0 x1)), .val (.int z)] [(.int ((x2 &&& (2147483647 : Int32)) % (8 : Int32))), (.int (15 : Int32)), (.ref b1)]))
  refine own_of (fun _ kk => XS.lload X41.here hx rfl (hb hby at_524) rfl kk) ?_
  show own_Fin _ _ _ _ _ _ _ (T41.setTop (mkF m 526 #[.val (.long x0), .second, .val (.int x1), .val (.int x2), .val (.int x3), .val (.long (own_lushr (x0 &&& (9223372036854775807 : Int64)) (x1 &&& (63 : Int32)))), .second, .val (.int ((x2 &&& (2147483647 : Int32)) % (8 : Int32))), .val (.int (own_i2b x3)), .val (.ref b1), .val (.int (own_m0_233a x0 x1)), .val (.int z)] [(.long (own_lushr (x0 &&& (9223372036854775807 : Int64)) (x1 &&& (63 : Int32)))), (.int ((x2 &&& (2147483647 : Int32)) % (8 : Int32))), (.int (15 : Int32)), (.ref b1)]))
  refine own_of (fun _ kk => XS.iload X41.here hx rfl (hb hby at_526) rfl kk) ?_
  show own_Fin _ _ _ _ _ _ _ (T41.setTop (mkF m 528 #[.val (.long x0), .second, .val (.int x1), .val (.int x2), .val (.int x3), .val (.long (own_lushr (x0 &&& (9223372036854775807 : Int64)) (x1 &&& (63 : Int32)))), .second, .val (.int ((x2 &&& (2147483647 : Int32)) % (8 : Int32))), .val (.int (own_i2b x3)), .val (.ref b1), .val (.int (own_m0_233a x0 x1)), .val (.int z)] [(.int (own_m0_233a x0 x1)), (.long (own_lushr (x0 &&& (9223372036854775807 : Int64)) (x1 &&& (63 : Int32)))), (.int ((x2 &&& (2147483647 : Int32)) % (8 : Int32))), (.int (15 : Int32)), (.ref b1)]))
  refine own_of (fun _ kk => XS.iload X41.here hx rfl (hb hby at_528) rfl kk) ?_
  show own_Fin _ _ _ _ _ _ _ (T41.setTop (mkF m 530 #[.val (.long x0), .second, .val (.int x1), .val (.int x2), .val (.int x3), .val (.long (own_lushr (x0 &&& (9223372036854775807 : Int64)) (x1 &&& (63 : Int32)))), .second, .val (.int ((x2 &&& (2147483647 : Int32)) % (8 : Int32))), .val (.int (own_i2b x3)), .val (.ref b1), .val (.int (own_m0_233a x0 x1)), .val (.int z)] [(.int (own_i2b x3)), (.int (own_m0_233a x0 x1)), (.long (own_lushr (x0 &&& (9223372036854775807 : Int64)) (x1 &&& (63 : Int32)))), (.int ((x2 &&& (2147483647 : Int32)) % (8 : Int32))), (.int (15 : Int32)), (.ref b1)]))
  refine own_callS X41 hx hZ hown (hw _ (List.mem_of_getElem? (i := 8) rfl)) (hw _ (List.mem_of_getElem? (i := 9) rfl)) (hw _ (List.mem_of_getElem? (i := 10) rfl)) (hw _ (List.mem_of_getElem? (i := 11) rfl)) (by decide) e41 (argsL := [(.ref b1), (.int (15 : Int32)), (.int ((x2 &&& (2147483647 : Int32)) % (8 : Int32))), (.long (own_lushr (x0 &&& (9223372036854775807 : Int64)) (x1 &&& (63 : Int32)))), (.int (own_m0_233a x0 x1)), (.int (own_i2b x3))]) (met2 l Z a0 hw b1 (15 : Int32) ((x2 &&& (2147483647 : Int32)) % (8 : Int32)) (own_lushr (x0 &&& (9223372036854775807 : Int64)) (x1 &&& (63 : Int32))) (own_m0_233a x0 x1) (own_i2b x3) 16 (own_w2 ((x2 &&& (2147483647 : Int32)) % (8 : Int32)).toInt.toNat (own_lushr (x0 &&& (9223372036854775807 : Int64)) (x1 &&& (63 : Int32))) (fun _ => (own_i2b (own_i2b x3))) k) 15 ((own_w2 ((x2 &&& (2147483647 : Int32)) % (8 : Int32)).toInt.toNat (own_lushr (x0 &&& (9223372036854775807 : Int64)) (x1 &&& (63 : Int32))) (fun _ => (own_i2b (own_i2b x3))) k) 15) h26 n0 Z26 A26 (by decide) (by decide) rfl (own_key (own_lushr (x0 &&& (9223372036854775807 : Int64)) (x1 &&& (63 : Int32))) (own_hv x0 x1) ((x2 &&& (2147483647 : Int32)) % (8 : Int32)) (own_m0_233a x0 x1) (own_i2b x3) (15 : Int32) ((x2 &&& (2147483647 : Int32)) % (8 : Int32)).toInt.toNat k 15 (fun _ => (own_i2b (own_i2b x3))) (own_at x2).1 (own_at x2).2 hk hs (by decide) (by decide) hce rfl)) (W := 0) (by decide) (by decide) (by decide) (by decide) (by rw [hml]; rfl) pd_1 rfl (rest := []) rfl (Nat.le_of_eq rfl) (hb hby at_530) ?_
  intro v42 T42 h42 L42 X42 e42 q42
  obtain ⟨rfl, qh42, rfl⟩ := q42
  rw [qh42] at e42
  have N42 := Fr.app N41 (Fr.nil n0)
  show own_Fin _ _ _ _ _ _ _ (T42.setTop (mkF m 533 #[.val (.long x0), .second, .val (.int x1), .val (.int x2), .val (.int x3), .val (.long (own_lushr (x0 &&& (9223372036854775807 : Int64)) (x1 &&& (63 : Int32)))), .second, .val (.int ((x2 &&& (2147483647 : Int32)) % (8 : Int32))), .val (.int (own_i2b x3)), .val (.ref b1), .val (.int (own_m0_233a x0 x1)), .val (.int z)] [(.int (1 : Int32))]))
  refine own_of (fun _ kk => XS.ifNo X42.here hx rfl (hb hby at_533) rfl ((if0 _ _).trans (feq (by decide : ¬ ((1 : Int32) = (0 : Int32)))).1) kk) ?_
  show own_Fin _ _ _ _ _ _ _ (T42.setTop (mkF m 536 #[.val (.long x0), .second, .val (.int x1), .val (.int x2), .val (.int x3), .val (.long (own_lushr (x0 &&& (9223372036854775807 : Int64)) (x1 &&& (63 : Int32)))), .second, .val (.int ((x2 &&& (2147483647 : Int32)) % (8 : Int32))), .val (.int (own_i2b x3)), .val (.ref b1), .val (.int (own_m0_233a x0 x1)), .val (.int z)] []))
  refine own_of (fun _ kk => XS.iconst X42.here hx rfl (hb hby at_536) kk) ?_
  show own_Fin _ _ _ _ _ _ _ (T42.setTop (mkF m 537 #[.val (.long x0), .second, .val (.int x1), .val (.int x2), .val (.int x3), .val (.long (own_lushr (x0 &&& (9223372036854775807 : Int64)) (x1 &&& (63 : Int32)))), .second, .val (.int ((x2 &&& (2147483647 : Int32)) % (8 : Int32))), .val (.int (own_i2b x3)), .val (.ref b1), .val (.int (own_m0_233a x0 x1)), .val (.int z)] [(.int (1 : Int32))]))
  refine own_of (fun _ kk => XS.goto X42.here hx rfl (pc0 := 537) (pc' := 541) rfl (hb hby at_537) (by decide) (by decide) kk) ?_
  show own_Fin _ _ _ _ _ _ _ (T42.setTop (mkF m 541 #[.val (.long x0), .second, .val (.int x1), .val (.int x2), .val (.int x3), .val (.long (own_lushr (x0 &&& (9223372036854775807 : Int64)) (x1 &&& (63 : Int32)))), .second, .val (.int ((x2 &&& (2147483647 : Int32)) % (8 : Int32))), .val (.int (own_i2b x3)), .val (.ref b1), .val (.int (own_m0_233a x0 x1)), .val (.int z)] [(.int (1 : Int32))]))
  exact own_retN X42 hx hlk e42 (t := .boolean) hret (by simp) (hb hby at_541) (by decide) (by decide) (z' := (1 : Int32)) (by decide) ⟨rfl, N42⟩
set_option maxRecDepth 65536 in
set_option maxHeartbeats 40000000 in
theorem comes_1 {Post : Tables → Env → Array Value → State → Outcome → State → Prop} (hpost : ∀ tb e args s v u, (limb_1_1.after args s (.returned v) u = true ∧ limb_1_2.after args s (.returned v) u = true ∧ True) → FrameEnd s (.returned v) u (Jvm.fieldLocs frame_1_writes args s ++ Jvm.arrayLocs frame_1_arrays args s ++ Jvm.staticLocs frame_1_statics s) 16 128 → Post tb e args s (.returned v) u) :
    ArmFor flags0 classFile x code maxLocals ret World_1 tables_1 room_1 Calls_1 rest_1 Pre_1 Post := by
  intro l hfl _ _ p e ha hc hk s m args below hf hA hF happ hP
  obtain ⟨hcalls, hrest, hpre⟩ := hP
  obtain ⟨-, -, -, hnamed, -, -, -, hat⟩ := (Spec.applies_iff hf).mp happ
  obtain ⟨hg, hn⟩ := and_e (Cond.before_iff.mp (show (Jvm.Cond.and given_1 narrow_1).before args s = true from hpre))
  obtain ⟨g1, g2⟩ := and_e hg
  obtain ⟨g3, g4⟩ := and_e g2
  obtain ⟨g5, g6⟩ := and_e g4
  obtain ⟨g7, g8⟩ := and_e g6
  obtain ⟨w0, w1, w2, w3, rfl⟩ : ∃ w0 w1 w2 w3 : Value, args = #[w0, w1, w2, w3] := by
    have hs : args.size = 4 := by simpa [Cond.value, given_1] using g1
    obtain ⟨L⟩ := args
    match L, hs with
    | [w0, w1, w2, w3], _ => exact ⟨w0, w1, w2, w3, rfl⟩
  have hw := fun d (hd : d ∈ tables_1) => atoms_spec (ws := Jvm.Cond.code x code maxLocals ret :: tables_1) hat d (List.mem_cons_of_mem _ hd)
  obtain ⟨i0, ei0⟩ := isL_v g3
  obtain rfl : w0 = (.long i0) := Option.some.inj ei0
  obtain ⟨i1, ei1⟩ := is_v g5
  obtain rfl : w1 = (.int i1) := Option.some.inj ei1
  obtain ⟨i2, ei2⟩ := is_v g7
  obtain rfl : w2 = (.int i2) := Option.some.inj ei2
  obtain ⟨i3, ei3⟩ := is_v g8
  obtain rfl : w3 = (.int i3) := Option.some.inj ei3
  obtain ⟨n, o, h1, h2, h3, _, L, rfl, ⟨rfl, N⟩, hq⟩ := own_law l s _ hw i0 i1 i2 i3 s.heap s.heap.size (Nat.le_refl _) tables_1 p e ha hc hk s m _ below hf ((Spec.applies_iff_loose hf).mp happ).1 ⟨rfl, State.Warmed39.refl s, rfl⟩ trivial
  refine ⟨n, _, h1, h2, h3, hpost _ _ _ _ _ _ ⟨Cond.after_iff.mpr rfl, Cond.after_iff.mpr (eq_i res_at (Term.int_eval (1)) rfl), trivial⟩ ⟨hq.1, hq.2.1, (hq.2.2.sift fun y hy => Or.inr (N y hy)).mono (by decide) (by decide)⟩⟩
theorem main_1_1 : Claimed_1_1 := comes_1 fun _ _ _ _ _ _ h hF => ⟨h.1, hF⟩
theorem main_1_2 : Claimed_1_2 := comes_1 fun _ _ _ _ _ _ h hF => ⟨h.2.1, hF⟩
end Jvm.Pilot.@@N@@
namespace Jvm.Pilot.@@N@@
open Jvm Jvm.ClassFile Sem Op Lib Jvm.Free Jvm.Stand Jvm.Pilot.@@N@@.Jvm.D
/-! MADE BY PROGRAM (witnessworld.py) out of the Statement's table words and the real class files: 11 classes; the members and pool entries that the words name. The judged class is class 1, her method 1. -/
namespace start1
open Jvm.ClassFile
def u (s : String) : CpInfo := .utf8 (stringToUtf16 s)
/-- a pool by its gaps: so many unusable entries, then the entry; so many at the end -/
def gap : Nat → List CpInfo → List CpInfo
  | 0, r => r
  | n + 1, r => .unusable :: gap n r
def poolList (es : List (Nat × CpInfo)) (last : Nat) : List CpInfo := es.foldr (fun e r => gap e.1 (e.2 :: r)) (gap last [])
def pool (es : List (Nat × CpInfo)) (last : Nat) : Array CpInfo := ⟨poolList es last⟩
def fileOf (pool : Array CpInfo) (this : Nat) (attrs : Array Attribute := #[]) (ms : Array MethodInfo := #[]) (fl : Nat := 33) (sup : Nat := 0) (ifs : Array Nat := #[]) (fds : Array FieldInfo := #[]) : ClassFile where
  minorVersion := 0
  majorVersion := 65
  constantPool := pool
  accessFlags := fl
  thisClass := this
  superClass := sup
  interfaces := ifs
  fields := fds
  methods := ms
  attributes := attrs
def plain (name : String) (sup : Option ClassId) : Class where
  name := name
  kind := .ordinary
  loader := none
  accessFlags := 33
  super := sup
  interfaces := #[]
  cf := none
  fields := #[]
  methods := #[]
  instanceTypes := #[]
  staticTypes := #[]
  resolved := #[]
  callSites := []
  init := .initialized
  statics := none
  mirror := none

def pool0 : Array CpInfo := pool [(5, u "<init>"), (0, u "()V"), (1, .class_ 10), (1, u "java/lang/Object")] 113

def k0m0 : Method := { name := "<init>", desc := "()V", sig := { parameters := [], returnType := none }, accessFlags := 1, code := none }
/-- java/lang/Object -/
def k0 : Class := { plain "java/lang/Object" none with
  accessFlags := 33
  interfaces := #[]
  cf := some (fileOf pool0 8 #[] #[{ accessFlags := 1, nameIndex := 5, descriptorIndex := 6, attributes := #[] }] 33 0 #[] #[])
  fields := #[]
  methods := #[k0m0]
  instanceTypes := #[]
  staticTypes := #[]
  resolved := Array.replicate 124 none
  statics := none }

def pool1 : Array CpInfo := pool [(2, .class_ 4), (1, u "java/lang/Object"), (0, u "<init>"), (0, u "()V"), (2, .long 9223372036854775807), (1, .integer 2147483647), (0, .methodref 13 14), (0, .class_ 15), (0, .nameAndType 16 17), (0, u "com/example/vestwright/vestwright/csv/ExternalSort"), (0, u "putVarLong"), (0, u "([BIJ)I"), (0, .methodref 19 20), (0, .class_ 21), (0, .nameAndType 22 23), (0, u "com/example/vestwright/vestwright/csv/ExternalSortPutVarLongPinLaw"), (0, u "ok"), (0, u "([BIIJIB)Z"), (0, .long 127), (3, u "law"), (0, u "(JIII)Z")] 5

def k1m0 : Method := { name := "<init>", desc := "()V", sig := { parameters := [], returnType := none }, accessFlags := 2, code := none }
def k1c1 : Code := { maxStack := 7, maxLocals := 12, code := code, exceptionTable := #[], attributes := #[] }
def k1m1 : Method := { name := "law", desc := "(JIII)Z", sig := { parameters := [.long, .int, .int, .int], returnType := some .boolean }, accessFlags := 9, code := some k1c1 }
def k1c2 : Code := { maxStack := 4, maxLocals := 10, code := method_3_code, exceptionTable := #[], attributes := #[] }
def k1m2 : Method := { name := "ok", desc := "([BIIJIB)Z", sig := { parameters := [(.array .byte), .int, .int, .long, .int, .byte], returnType := some .boolean }, accessFlags := 10, code := some k1c2 }
/-- com/example/vestwright/vestwright/csv/ExternalSortPutVarLongPinLaw -/
def k1 : Class := { plain "com/example/vestwright/vestwright/csv/ExternalSortPutVarLongPinLaw" (some 0) with
  accessFlags := 49
  interfaces := #[]
  cf := some (fileOf pool1 19 #[] #[{ accessFlags := 2, nameIndex := 5, descriptorIndex := 6, attributes := #[] }, { accessFlags := 9, nameIndex := 28, descriptorIndex := 29, attributes := #[] }, { accessFlags := 10, nameIndex := 22, descriptorIndex := 23, attributes := #[] }] 49 2 #[] #[])
  fields := #[]
  methods := #[k1m0, k1m1, k1m2]
  instanceTypes := #[]
  staticTypes := #[]
  resolved := Array.replicate 35 none
  statics := none }

def pool2 : Array CpInfo := pool [(1, .class_ 2), (0, u "java/lang/AutoCloseable"), (0, .class_ 4), (0, u "java/lang/Object")] 7

/-- java/lang/AutoCloseable -/
def k2 : Class := { plain "java/lang/AutoCloseable" (some 0) with
  accessFlags := 1537
  interfaces := #[]
  cf := some (fileOf pool2 1 #[] #[] 1537 3 #[] #[])
  fields := #[]
  methods := #[]
  instanceTypes := #[]
  staticTypes := #[]
  resolved := Array.replicate 12 none
  statics := none }

def pool3 : Array CpInfo := pool [(1, .class_ 2), (0, u "java/io/Closeable"), (0, .class_ 4), (0, u "java/lang/Object"), (0, .class_ 6), (0, u "java/lang/AutoCloseable")] 7

/-- java/io/Closeable -/
def k3 : Class := { plain "java/io/Closeable" (some 0) with
  accessFlags := 1537
  interfaces := #[2]
  cf := some (fileOf pool3 1 #[] #[] 1537 3 #[5] #[])
  fields := #[]
  methods := #[]
  instanceTypes := #[]
  staticTypes := #[]
  resolved := Array.replicate 14 none
  statics := none }

def pool4 : Array CpInfo := pool [(2, .class_ 4), (1, u "java/lang/Object"), (6, .class_ 13), (1, u "com/example/vestwright/vestwright/csv/ExternalSort"), (0, u "files"), (0, u "Ljava/util/List;"), (2, u "buffer"), (2, u "runs"), (2, u "order"), (0, u "Ljava/util/Comparator;"), (2, u "format"), (0, u "Lcom/example/vestwright/vestwright/csv/ExternalSort$Format;"), (2, u "weight"), (0, u "Ljava/util/function/ToLongFunction;"), (2, u "budget"), (0, u "J"), (2, u "fanIn"), (0, u "I"), (2, u "prefix"), (0, u "Ljava/lang/String;"), (8, u "held"), (18, u "open"), (0, u "Lcom/example/vestwright/vestwright/csv/ExternalSort$OpenRun;"), (4, .class_ 80), (0, u "com/example/vestwright/vestwright/csv/ExternalSort$Listed"), (34, .class_ 116), (0, u "com/example/vestwright/vestwright/csv/ExternalSort$Run"), (4, .class_ 122), (0, u "com/example/vestwright/vestwright/csv/ExternalSort$Merge"), (16, .class_ 140), (0, u "com/example/vestwright/vestwright/csv/ExternalSort$Ahead"), (11, .class_ 153), (0, u "com/example/vestwright/vestwright/csv/ExternalSort$Output"), (6, .class_ 162), (1, u "com/example/vestwright/vestwright/csv/ExternalSort$Format"), (45, .class_ 210), (1, u "com/example/vestwright/vestwright/csv/ExternalSort$OpenRun"), (49, .long 128), (3, u "BIG_ENDIAN_LONG"), (0, u "Ljava/lang/invoke/VarHandle;"), (12, .class_ 279), (0, u "com/example/vestwright/vestwright/csv/ExternalSort$InOrder"), (20, .class_ 301), (0, u "java/io/Closeable"), (0, u "BUFFER"), (2, u "VAR_LONG_BITS"), (1, u "MOST_VAR_LONG_BYTES"), (1, u "MORE"), (32, u "putVarLong"), (0, u "([BIJ)I"), (13, .class_ 358), (0, u "com/example/vestwright/vestwright/csv/ExternalSort$RunReader"), (0, .class_ 360), (0, u "com/example/vestwright/vestwright/csv/ExternalSort$Input")] 38

def k4c0 : Code := { maxStack := 6, maxLocals := 4, code := prog_18_method_16_code, exceptionTable := #[], attributes := #[] }
def k4m0 : Method := { name := "putVarLong", desc := "([BIJ)I", sig := { parameters := [(.array .byte), .int, .long], returnType := some .int }, accessFlags := 8, code := some k4c0 }
/-- com/example/vestwright/vestwright/csv/ExternalSort -/
def k4 : Class := { plain "com/example/vestwright/vestwright/csv/ExternalSort" (some 0) with
  accessFlags := 48
  interfaces := #[3]
  cf := some (fileOf pool4 11 #[.nestMembers #[79, 139, 121, 357, 208, 115, 359, 152, 278, 160]] #[{ accessFlags := 8, nameIndex := 342, descriptorIndex := 343, attributes := #[] }] 48 2 #[300] #[{ accessFlags := 26, nameIndex := 302, descriptorIndex := 41, attributes := #[] }, { accessFlags := 26, nameIndex := 264, descriptorIndex := 265, attributes := #[] }, { accessFlags := 26, nameIndex := 305, descriptorIndex := 41, attributes := #[] }, { accessFlags := 26, nameIndex := 307, descriptorIndex := 41, attributes := #[] }, { accessFlags := 26, nameIndex := 309, descriptorIndex := 41, attributes := #[] }, { accessFlags := 18, nameIndex := 24, descriptorIndex := 25, attributes := #[] }, { accessFlags := 18, nameIndex := 28, descriptorIndex := 29, attributes := #[] }, { accessFlags := 18, nameIndex := 32, descriptorIndex := 33, attributes := #[] }, { accessFlags := 18, nameIndex := 36, descriptorIndex := 37, attributes := #[] }, { accessFlags := 18, nameIndex := 40, descriptorIndex := 41, attributes := #[] }, { accessFlags := 18, nameIndex := 44, descriptorIndex := 45, attributes := #[] }, { accessFlags := 18, nameIndex := 14, descriptorIndex := 15, attributes := #[] }, { accessFlags := 18, nameIndex := 18, descriptorIndex := 15, attributes := #[] }, { accessFlags := 18, nameIndex := 21, descriptorIndex := 15, attributes := #[] }, { accessFlags := 2, nameIndex := 54, descriptorIndex := 37, attributes := #[] }, { accessFlags := 2, nameIndex := 73, descriptorIndex := 74, attributes := #[] }])
  fields := #[{ name := "BUFFER", type := .int, accessFlags := 26, slot := 0, constantValue := 0 }, { name := "BIG_ENDIAN_LONG", type := (.object "java/lang/invoke/VarHandle"), accessFlags := 26, slot := 1, constantValue := 0 }, { name := "VAR_LONG_BITS", type := .int, accessFlags := 26, slot := 2, constantValue := 0 }, { name := "MOST_VAR_LONG_BYTES", type := .int, accessFlags := 26, slot := 3, constantValue := 0 }, { name := "MORE", type := .int, accessFlags := 26, slot := 4, constantValue := 0 }, { name := "order", type := (.object "java/util/Comparator"), accessFlags := 18, slot := 0, constantValue := 0 }, { name := "format", type := (.object "com/example/vestwright/vestwright/csv/ExternalSort$Format"), accessFlags := 18, slot := 1, constantValue := 0 }, { name := "weight", type := (.object "java/util/function/ToLongFunction"), accessFlags := 18, slot := 2, constantValue := 0 }, { name := "budget", type := .long, accessFlags := 18, slot := 3, constantValue := 0 }, { name := "fanIn", type := .int, accessFlags := 18, slot := 4, constantValue := 0 }, { name := "prefix", type := (.object "java/lang/String"), accessFlags := 18, slot := 5, constantValue := 0 }, { name := "files", type := (.object "java/util/List"), accessFlags := 18, slot := 6, constantValue := 0 }, { name := "buffer", type := (.object "java/util/List"), accessFlags := 18, slot := 7, constantValue := 0 }, { name := "runs", type := (.object "java/util/List"), accessFlags := 18, slot := 8, constantValue := 0 }, { name := "held", type := .long, accessFlags := 2, slot := 9, constantValue := 0 }, { name := "open", type := (.object "com/example/vestwright/vestwright/csv/ExternalSort$OpenRun"), accessFlags := 2, slot := 10, constantValue := 0 }]
  methods := #[k4m0]
  instanceTypes := #[(.object "java/util/Comparator"), (.object "com/example/vestwright/vestwright/csv/ExternalSort$Format"), (.object "java/util/function/ToLongFunction"), .long, .int, (.object "java/lang/String"), (.object "java/util/List"), (.object "java/util/List"), (.object "java/util/List"), .long, (.object "com/example/vestwright/vestwright/csv/ExternalSort$OpenRun")]
  staticTypes := #[.int, (.object "java/lang/invoke/VarHandle"), .int, .int, .int]
  resolved := Array.replicate 399 none
  statics := none }

def pool5 : Array CpInfo := pool [(1, u "java/lang/Cloneable"), (0, .class_ 1), (0, u "java/lang/Object"), (0, .class_ 3)] 3

/-- java/lang/Cloneable -/
def k5 : Class := { plain "java/lang/Cloneable" (some 0) with
  accessFlags := 1537
  interfaces := #[]
  cf := some (fileOf pool5 2 #[] #[] 1537 4 #[] #[])
  fields := #[]
  methods := #[]
  instanceTypes := #[]
  staticTypes := #[]
  resolved := Array.replicate 8 none
  statics := none }

def pool6 : Array CpInfo := pool [(1, u "java/io/Serializable"), (0, .class_ 1), (0, u "java/lang/Object"), (0, .class_ 3)] 3

/-- java/io/Serializable -/
def k6 : Class := { plain "java/io/Serializable" (some 0) with
  accessFlags := 1537
  interfaces := #[]
  cf := some (fileOf pool6 2 #[] #[] 1537 4 #[] #[])
  fields := #[]
  methods := #[]
  instanceTypes := #[]
  staticTypes := #[]
  resolved := Array.replicate 8 none
  statics := none }

/-- the primitive byte -/
def k7 : Class := { plain "byte" none with kind := .primitive 'B', accessFlags := 0x411 }
/-- [B -/
def k8 : Class := { plain "[B" (some 0) with kind := .array 7 .byte, interfaces := #[5, 6], accessFlags := 1041 }

/-- the primitive int -/
def k9 : Class := { plain "int" none with kind := .primitive 'I', accessFlags := 0x411 }
/-- [I -/
def k10 : Class := { plain "[I" (some 0) with kind := .array 9 .int, interfaces := #[5, 6], accessFlags := 1041 }

def heap : Heap := #[]
def classes : Array Class := #[k0, k1, k2, k3, k4, k5, k6, k7, k8, k9, k10]
def interned : List (Array UInt16 × Addr) := []
def slotsUsed : Nat := 0
def theMethod : MethodId := ⟨1, 1⟩
def args0 : Array Value := #[.long 5, .int 7, .int 1, .int 2]
def aboutOver (below : List Frame) : State where
  vm := { classes := classes, interned := interned.toArray }
  heap := heap
  slotsUsed := slotsUsed
  threads := #[{ frames := .invoking theMethod args0 :: below }]
def below0 : List Frame := [.native { method := ⟨0, 0⟩, args := #[] }]
def about1 : State := aboutOver below0
def p0 : Program := .bare "" "" ""
def e0 : Env := launch0.env 0 0 0
theorem w_frames : about1.frames = Frame.invoking theMethod args0 :: below0 := rfl
set_option maxRecDepth 65536 in
theorem w_args : argsFit about1.vm theMethod args0 = true := by decide +kernel
set_option maxRecDepth 65536 in
theorem w_heap : heapFits about1 = true := by decide +kernel
set_option maxRecDepth 65536 in
theorem w_runnable : about1.curStatus? = some .runnable := by decide +kernel
set_option maxRecDepth 65536 in
theorem w_alone : about1.alone = true := by decide +kernel
set_option maxRecDepth 65536 in
theorem w_named : about1.methodNamed? x = some theMethod := by decide +kernel
set_option maxRecDepth 65536 in
theorem w_hears : about1.hears theMethod below0 = true := by decide +kernel
set_option maxRecDepth 65536 in
theorem w_ripe : about1.ripe theMethod args0 below0 = true := by decide +kernel
theorem w_running : about1.status = .running := rfl
set_option maxRecDepth 65536 in
theorem w_room : about1.hasRoom e0.platform room_1 = true :=
  launch0.hasRoom_least _ room_1 (by decide +kernel) (by decide +kernel) (by decide +kernel) (by decide +kernel) (by decide +kernel) (by decide +kernel)
theorem allAtoms_all (ts : List Jvm.Cond) (a : Array Jvm.Value) (st : Jvm.State) : (allAtoms ts).before a st = ts.all (fun c => c.before a st) := by
  induction ts with
  | nil => rfl
  | cons c t ih =>
    show (Jvm.Cond.and c (allAtoms t)).before a st = _
    rw [Jvm.Cond.before_and, ih, List.all_cons]
def words1 : List Jvm.Cond := Jvm.Cond.code x code maxLocals ret :: tables_1
/-- a 'code' word, met by the world's own term for the bytes: nothing is compared byte by byte -/
theorem code_word {y : MethodName} {bytes : ByteArray} {mx : Nat} {rt : Option FieldType} {a : Array Value} {s : State} {m : MethodId} {meth : Method} {c : Code} (h1 : s.methodNamed? y = some m) (h2 : s.vm.method? m = some meth) (h3 : meth.code = some c) (h4 : c.code = bytes)
    (h5 : (c.maxLocals == mx && c.exceptionTable.isEmpty && decide (c.maxStack ≤ mostOperands) && decide (meth.sig.returnType = rt) && !meth.locks && decide (parseMethodDescriptor y.desc = some meth.sig)) = true) : (Jvm.Cond.code y bytes mx rt).before a s = true := by
  simp only [Bool.and_eq_true, beq_iff_eq, Bool.not_eq_true', decide_eq_true_eq] at h5
  obtain ⟨⟨⟨⟨⟨g1, g2⟩, g3⟩, g4⟩, g5⟩, g6⟩ := h5
  simp [Cond.before, Cond.holds, Cond.value, h1, h2, h3, h4, g1, g2, g3, g4, g5, g6]
def isCode : Jvm.Cond → Bool
  | .code _ _ _ _ => true
  | _ => false
theorem all_split {L : List Jvm.Cond} {P : Jvm.Cond → Bool} (h1 : L.all (fun c => isCode c || P c) = true) (h2 : ∀ c ∈ L.filter isCode, P c = true) : L.all P = true := by
  refine List.all_eq_true.mpr fun c hc => ?_
  have h := List.all_eq_true.mp h1 c hc
  rcases Bool.eq_false_or_eq_true (isCode c) with hi | hi
  · exact h2 c (List.mem_filter.mpr ⟨hc, hi⟩)
  · simpa [hi] using h
set_option maxRecDepth 65536 in
theorem w_c0 : (Jvm.Cond.code x code maxLocals ret).before args0 about1 = true := code_word (m := ⟨1, 1⟩) (meth := k1m1) (c := k1c1) (by decide +kernel) rfl rfl rfl (by decide +kernel)
set_option maxRecDepth 65536 in
theorem w_c1 : (Jvm.Cond.code ({ cls := "com/example/vestwright/vestwright/csv/ExternalSort", name := "putVarLong", desc := "([BIJ)I" } : Jvm.MethodName) prog_18_method_16_code (4 : Nat) (Option.some Jvm.ClassFile.FieldType.int)).before args0 about1 = true := code_word (m := ⟨4, 0⟩) (meth := k4m0) (c := k4c0) (by decide +kernel) rfl rfl rfl (by decide +kernel)
set_option maxRecDepth 65536 in
theorem w_c2 : (Jvm.Cond.code ({ cls := "com/example/vestwright/vestwright/csv/ExternalSortPutVarLongPinLaw", name := "ok", desc := "([BIIJIB)Z" } : Jvm.MethodName) method_3_code (10 : Nat) (Option.some Jvm.ClassFile.FieldType.boolean)).before args0 about1 = true := code_word (m := ⟨1, 2⟩) (meth := k1m2) (c := k1c2) (by decide +kernel) rfl rfl rfl (by decide +kernel)
def codes1 : List Jvm.Cond := [Jvm.Cond.code x code maxLocals ret, Jvm.Cond.code ({ cls := "com/example/vestwright/vestwright/csv/ExternalSort", name := "putVarLong", desc := "([BIJ)I" } : Jvm.MethodName) prog_18_method_16_code (4 : Nat) (Option.some Jvm.ClassFile.FieldType.int), Jvm.Cond.code ({ cls := "com/example/vestwright/vestwright/csv/ExternalSortPutVarLongPinLaw", name := "ok", desc := "([BIIJIB)Z" } : Jvm.MethodName) method_3_code (10 : Nat) (Option.some Jvm.ClassFile.FieldType.boolean)]
set_option maxRecDepth 65536 in
theorem codes_eq : words1.filter isCode = codes1 := rfl
theorem w_codes : ∀ c ∈ words1.filter isCode, c.before args0 about1 = true := by
  rw [codes_eq]
  intro c hc
  simp only [codes1, List.mem_cons, List.not_mem_nil, or_false] at hc
  rcases hc with rfl | rfl | rfl
  · exact w_c0
  · exact w_c1
  · exact w_c2
set_option maxRecDepth 65536 in
theorem w_t1 : words1.all (fun c => isCode c || c.before args0 about1) = true := by decide +kernel
theorem w_tables : (allAtoms (Jvm.Cond.code x code maxLocals ret :: tables_1)).before args0 about1 = true := by
  rw [allAtoms_all]
  show words1.all (fun c => c.before args0 about1) = true
  refine all_split ?_ w_codes
  rw [w_t1]
set_option maxRecDepth 65536 in
theorem w_case : (Jvm.Cond.and given_1 narrow_1).before args0 about1 = true := by decide +kernel
theorem w_applies : (headSpec (Jvm.Cond.code x code maxLocals ret :: tables_1) room_1).applies x e0.platform about1 = true :=
  (Spec.applies_iff w_frames).mpr ⟨w_running, w_runnable, w_alone, w_named, w_hears, w_ripe, w_room, w_tables⟩
theorem atStart : AtStart classFile x code maxLocals ret World_1 tables_1 room_1 Calls_1 rest_1 Pre_1 launch0 p0 e0 about1 theMethod args0 below0 :=
  ⟨lists_1, trivial, launch0.admits_env _ _ _, launch0.least_env, fairChoices_fair.cas, fairChoices_fair.clock, w_frames, w_args, w_heap, w_applies, trivial, trivial, w_case⟩
end start1
theorem witness_1 : WitnessClaimed_1 := ⟨start1.p0, start1.e0, start1.about1, start1.theMethod, start1.args0, start1.below0, start1.atStart⟩
end Jvm.Pilot.@@N@@
