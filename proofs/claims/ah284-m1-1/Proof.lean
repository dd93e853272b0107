import JvmDerived
import JvmDerived.Pilot.@@N@@Statement
import JvmDerived.Pilot.@@N@@Code
set_option linter.unusedVariables false
set_option linter.unusedSimpArgs false
namespace Jvm.RoadKit
open Sem ClassFile Op Lib Jvm.Stand Jvm.Free Jvm.LawKit
section OwnKit
variable {p : Program} {l : Launch} {e : Env} {R : Room} {s : State} {m : MethodId} {args : Array Value} {below : List Frame} {meth : Method} {c : Code} {T : State} {locs : List Loc} {cells slots : Nat} {Z : State} {a0 : Array Value} {h h' : Heap} {a b : Addr}
variable {C N : Nat} {Q : Option Value → Heap → List Loc → Prop} {pc : Nat} {Ls : Array Slot} {rest : List Value}
/-- from the state A the invocation returns, with what Q says of the value, the heap and the places written -/
def own_Fin (p : Program) (e : Env) (below : List Frame) (s : State) (C N : Nat) (Q : Option Value → Heap → List Loc → Prop) (A : State) : Prop :=
  ∃ s₂ o, Steps p.tables e below A s₂ ∧ s₂.status = .running ∧ Ended s₂ below o ∧ ∃ v L, o = .returned v ∧ Q v s₂.heap L ∧ FrameEnd s o s₂ L C N
theorem own_of {A B : State} (st : ∀ t, Steps p.tables e below B t → Steps p.tables e below A t) (k : own_Fin p e below s C N Q B) : own_Fin p e below s C N Q A := by
  obtain ⟨s₂, o, h1, h2⟩ := k
  exact ⟨s₂, o, st _ h1, h2⟩
theorem own_mono {Q' : Option Value → Heap → List Loc → Prop} {A : State} (hq : ∀ v h L, Q v h L → Q' v h L) (k : own_Fin p e below s C N Q A) : own_Fin p e below s C N Q' A := by
  obtain ⟨s₂, o, h1, h2, h3, v, L, h4, h5, h6⟩ := k
  exact ⟨s₂, o, h1, h2, h3, v, L, h4, hq _ _ _ h5, h6⟩
/-- a body's contract: called with as' over the heap h0 it returns, and Q holds -/
def own_Met (l : Launch) (Z : State) (y : MethodName) (bytes : ByteArray) (maxL : Nat) (ret : Option FieldType) (rm : Room) (as' : Array Value) (h0 : Heap) (Q : Option Value → Heap → List Loc → Prop) : Prop :=
  ∀ ws : List Cond, MetFree l y (head1 (Cond.code y bytes maxL ret :: ws) rm) (fun a U => a = as' ∧ Z.Warmed39 U.vm ∧ U.heap = h0) (fun _ _ _ _ _ => True) (fun _ U o U' => ∃ v L, o = .returned v ∧ Q v U'.heap L ∧ FrameEnd U o U' L rm.cells rm.slots)
theorem own_met {y : MethodName} {bytes : ByteArray} {maxL : Nat} {ret : Option FieldType} {rm : Room} {as' : Array Value} {h0 : Heap} (hpl : plainFor y = true)
    (body : ∀ (p : Program) (e : Env) (s : State) (m : MethodId) (below : List Frame) (meth : Method) (c : Code) (T : State), Stand p l e rm s m as' below meth c T [] 0 0 → p.tables.exec = Jvm.exec → c.code = bytes → c.maxLocals = maxL → s.vm.findClass y.cls = some m.cls → Z.Warmed39 s.vm → T.heap = h0 → meth.sig.returnType = ret → meth.locks = false → meth.name = y.name →
      own_Fin p e below s rm.cells rm.slots Q (T.setTop (entryFrame m as' maxL))) : own_Met l Z y bytes maxL ret rm as' h0 Q := by
  intro ws
  refine MetFree.of_bodySF hpl hisR ?_
  intro p e s m args below meth c s₁ Bd hml0 hP hK
  obtain ⟨rfl, hZ, hh⟩ := hP
  have X0 : Stand p l e rm s m _ below meth c s₁ [] 0 0 := Stand.of_body Bd
  exact body p e s m below meth c s₁ X0 Bd.exec Bd.bytes hml0 (findClass_of_methodNamed Bd.named) hZ (by rw [← hh, Bd.state]; rfl) Bd.returns Bd.notSynchronized (name_of_methodNamed Bd.named Bd.method).1
/-! returns -/
theorem own_retI (X : Stand p l e R s m args below meth c T locs cells slots) (hx : p.tables.exec = Jvm.exec) (hlk : meth.locks = false) (eT : T.heap = h) {z : Int32} (hret : meth.sig.returnType = some .int) (hd : decode c.code pc = .ok (.ireturn, 1)) (hC : cells ≤ C) (hN : slots ≤ N) (hQ : Q (some (.int z)) h locs) :
    own_Fin p e below s C N Q (T.setTop (mkF m pc Ls (.int z :: rest))) := by
  obtain ⟨fs, hr, hrun, hended, hW, hsame⟩ := X.leave (v := some (.int z)) (fun h => by rw [hret] at h; cases h) hlk
  exact ⟨_, _, retOut X hx hret rfl (Or.inl ⟨rfl, Or.inl rfl, _, rfl⟩) hd hr, hrun, hended, _, _, rfl, (by show Q _ T.heap _; rw [eT]; exact hQ), ⟨_, rfl⟩, hW, hsame.mono hC hN⟩
theorem own_retN (X : Stand p l e R s m args below meth c T locs cells slots) (hx : p.tables.exec = Jvm.exec) (hlk : meth.locks = false) (eT : T.heap = h) {z z' : Int32} {t : FieldType} (hret : meth.sig.returnType = some t) (ht : t = .boolean ∨ t = .byte ∨ t = .char ∨ t = .short) (hd : decode c.code pc = .ok (.ireturn, 1)) (hC : cells ≤ C) (hN : slots ≤ N) (hz : nar t z = z') (hQ : Q (some (.int z')) h locs) :
    own_Fin p e below s C N Q (T.setTop (mkF m pc Ls (.int z :: rest))) := by
  subst hz
  obtain ⟨fs, hr, hrun, hended, hW, hsame⟩ := X.leave (v := some (.int (nar t z))) (fun h => by rw [hret] at h; cases h) hlk
  exact ⟨_, _, retN X hx hret ht hd hr, hrun, hended, _, _, rfl, (by show Q _ T.heap _; rw [eT]; exact hQ), ⟨_, rfl⟩, hW, hsame.mono hC hN⟩
theorem own_retJ (X : Stand p l e R s m args below meth c T locs cells slots) (hx : p.tables.exec = Jvm.exec) (hlk : meth.locks = false) (eT : T.heap = h) {z : Int64} (hret : meth.sig.returnType = some .long) (hd : decode c.code pc = .ok (.lreturn, 1)) (hC : cells ≤ C) (hN : slots ≤ N) (hQ : Q (some (.long z)) h locs) :
    own_Fin p e below s C N Q (T.setTop (mkF m pc Ls (.long z :: rest))) := by
  obtain ⟨fs, hr, hrun, hended, hW, hsame⟩ := X.leave (v := some (.long z)) (fun h => by rw [hret] at h; cases h) hlk
  exact ⟨_, _, retOut X hx hret rfl (Or.inr (Or.inl ⟨rfl, rfl, _, rfl⟩)) hd hr, hrun, hended, _, _, rfl, (by show Q _ T.heap _; rw [eT]; exact hQ), ⟨_, rfl⟩, hW, hsame.mono hC hN⟩
theorem own_retA (X : Stand p l e R s m args below meth c T locs cells slots) (hx : p.tables.exec = Jvm.exec) (hlk : meth.locks = false) (eT : T.heap = h) {t : FieldType} (ht : t.isReference = true) (hret : meth.sig.returnType = some t) (hn : narrow t (.ref a) = .ref a) (hd : decode c.code pc = .ok (.areturn, 1)) (hC : cells ≤ C) (hN : slots ≤ N) (hQ : Q (some (.ref a)) h locs) :
    own_Fin p e below s C N Q (T.setTop (mkF m pc Ls (.ref a :: rest))) := by
  obtain ⟨fs, hr, hrun, hended, hW, hsame⟩ := X.leave (v := some (.ref a)) (fun h => by rw [hret] at h; cases h) hlk
  exact ⟨_, _, retOut X hx hret hn (Or.inr (Or.inr (Or.inr (Or.inr ⟨rfl, ht, rfl⟩)))) hd hr, hrun, hended, _, _, rfl, (by show Q _ T.heap _; rw [eT]; exact hQ), ⟨_, rfl⟩, hW, hsame.mono hC hN⟩
theorem own_retV (X : Stand p l e R s m args below meth c T locs cells slots) (hx : p.tables.exec = Jvm.exec) (hlk : meth.locks = false) (eT : T.heap = h) (hret : meth.sig.returnType = none) (hd : decode c.code pc = .ok (.return_, 1)) (hC : cells ≤ C) (hN : slots ≤ N) (hQ : Q none h locs) :
    own_Fin p e below s C N Q (T.setTop (mkF m pc Ls [])) := by
  obtain ⟨fs, hr, hrun, hended, hW, hsame⟩ := X.leave (v := none) (fun _ => rfl) hlk
  exact ⟨_, _, X.returnOut hx hret hd hr, hrun, hended, _, _, rfl, (by show Q _ T.heap _; rw [eT]; exact hQ), ⟨_, rfl⟩, hW, hsame.mono hC hN⟩
/-! calls -/
theorem own_callS (X : Stand p l e R s m args below meth c T locs cells slots) (hx : p.tables.exec = Jvm.exec) (hZ : Z.Warmed39 s.vm) {own : String} {index : Nat} {y : MethodName} {bytes : ByteArray} {maxL : Nat} {ret : Option FieldType} {rm : Room} {W : Nat} {argsL : List Value} {Qc : Option Value → Heap → List Loc → Prop}
    (hown : s.vm.findClass own = some m.cls) (wl : (Cond.methodLink own index y).before a0 Z = true) (wst : (Cond.static y).before a0 Z = true) (wi : (Cond.initialized y.cls).before a0 Z = true) (wc : (Cond.code y bytes maxL ret).before a0 Z = true) (hy : y.cls ≠ "java/lang/invoke/MethodHandle" ∧ y.cls ≠ "java/lang/invoke/VarHandle")
    (eT : T.heap = h) (hM : own_Met l Z y bytes maxL ret rm argsL.toArray h Qc) (hfr : rm.frames + 1 ≤ R.frames) (hlo : W + (maxL + 11) + rm.locals ≤ R.locals) (hce : cells + rm.cells ≤ R.cells) (hsl : slots + rm.slots ≤ R.slots)
    (hsize : Ls.size = c.maxLocals) {ps : List FieldType} {r : Option FieldType} (hpd : parseMethodDescriptor y.desc = some ⟨ps, r⟩) (hlen : argsL.length = ps.length) {St : List Value} (hs : St = argsL.reverse ++ rest) (hW : (rest.map fun v => v.category).sum ≤ W) (hd : decode c.code pc = .ok (.invokestatic index, 3))
    (k : ∀ v T' h' L, Stand p l e R s m args below meth c T' (locs ++ L) (cells + rm.cells) (slots + rm.slots) → T'.heap = h' → Qc v h' L → own_Fin p e below s C N Q (T'.setTop (mkF m (pc + 3) Ls (v.toList ++ rest)))) :
    own_Fin p e below s C N Q (T.setTop (mkF m pc Ls St)) := by
  subst hs
  obtain ⟨v, _, ⟨T', L', k', n'⟩, -, X', ⟨Lc, hQ, l1, y1, z1⟩, st⟩ := Jvm.LawKit.callS X hx (y := y) hown (mvT hZ wl) (mvT hZ wst) (mvT hZ wi) (mvT hZ wc) hy (backOf (W := W) (hM []) hZ wc wi hfr hlo) (g := mkF m pc Ls (argsL.reverse ++ rest)) rfl hsize (argsL := argsL) (rest := rest) (lenOf hpd hlen) rfl (by show 2 * 0 + _ ≤ _; simpa using hW) hd (fun _ _ => ⟨rfl, eT, hce, hsl⟩)
  dsimp only [Pt.U, Pt.locs, Pt.cells, Pt.slots] at X' l1 y1 z1 st hQ
  subst l1 y1 z1
  exact own_of st (k _ _ _ _ X' rfl hQ)
def own_Pure (r : Value) (h : Heap) : Option Value → Heap → List Loc → Prop := fun v h' L => v = some r ∧ h' = h ∧ L = []
theorem own_callP (X : Stand p l e R s m args below meth c T locs cells slots) (hx : p.tables.exec = Jvm.exec) (hZ : Z.Warmed39 s.vm) {own : String} {index : Nat} {y : MethodName} {bytes : ByteArray} {maxL : Nat} {ret : Option FieldType} {fr lo : Nat} {W : Nat} {argsL : List Value} {rv : Value}
    (hown : s.vm.findClass own = some m.cls) (wl : (Cond.methodLink own index y).before a0 Z = true) (wst : (Cond.static y).before a0 Z = true) (wi : (Cond.initialized y.cls).before a0 Z = true) (wc : (Cond.code y bytes maxL ret).before a0 Z = true) (hy : y.cls ≠ "java/lang/invoke/MethodHandle" ∧ y.cls ≠ "java/lang/invoke/VarHandle")
    (eT : T.heap = h) (hM : own_Met l Z y bytes maxL ret { frames := fr, cells := 0, slots := 0, locals := lo } argsL.toArray h (own_Pure rv h)) (hfr : fr + 1 ≤ R.frames) (hlo : W + (maxL + 11) + lo ≤ R.locals) (hce : cells ≤ R.cells) (hsl : slots ≤ R.slots)
    (hsize : Ls.size = c.maxLocals) {ps : List FieldType} {r : Option FieldType} (hpd : parseMethodDescriptor y.desc = some ⟨ps, r⟩) (hlen : argsL.length = ps.length) {St : List Value} (hs : St = argsL.reverse ++ rest) (hW : (rest.map fun v => v.category).sum ≤ W) (hd : decode c.code pc = .ok (.invokestatic index, 3))
    (k : ∀ T', Stand p l e R s m args below meth c T' locs cells slots → T'.heap = h → own_Fin p e below s C N Q (T'.setTop (mkF m (pc + 3) Ls (rv :: rest)))) :
    own_Fin p e below s C N Q (T.setTop (mkF m pc Ls St)) := by
  refine own_callS X hx hZ hown wl wst wi wc hy eT hM hfr hlo hce hsl hsize hpd hlen hs hW hd ?_
  rintro v T' h' L X' e' ⟨rfl, rfl, rfl⟩
  rw [List.append_nil] at X'
  exact k T' X' e'
theorem own_callV (X : Stand p l e R s m args below meth c T locs cells slots) (hx : p.tables.exec = Jvm.exec) (hZ : Z.Warmed39 s.vm) {own K : String} {index : Nat} {y z : MethodName} {bytes : ByteArray} {maxL : Nat} {ret : Option FieldType} {rm : Room} {W : Nat} {argsL : List Value} {Qc : Option Value → Heap → List Loc → Prop}
    (hown : s.vm.findClass own = some m.cls) (wl : (Cond.methodLink own index y).before a0 Z = true) (wd : (Cond.declares y).before a0 Z = true) (hnf : NotFace s y) (wse : (Cond.selects K y z).before a0 Z = true) (win : (Cond.instanceMethod z).before a0 Z = true) (wi : (Cond.initialized z.cls).before a0 Z = true) (wc : (Cond.code z bytes maxL ret).before a0 Z = true) (hy : y.cls ≠ "java/lang/invoke/MethodHandle" ∧ y.cls ≠ "java/lang/invoke/VarHandle")
    (eT : T.heap = h) (E : Exa Z h b K) (hM : own_Met l Z z bytes maxL ret rm (.ref b :: argsL).toArray h Qc) (hfr : rm.frames + 1 ≤ R.frames) (hlo : W + (maxL + 11) + rm.locals ≤ R.locals) (hce : cells + rm.cells ≤ R.cells) (hsl : slots + rm.slots ≤ R.slots)
    (hsize : Ls.size = c.maxLocals) {ps : List FieldType} {r : Option FieldType} (hpd : parseMethodDescriptor y.desc = some ⟨ps, r⟩) (hlen : argsL.length = ps.length) {St : List Value} (hs : St = argsL.reverse ++ .ref b :: rest) (hW : (rest.map fun v => v.category).sum ≤ W) (hd : decode c.code pc = .ok (.invokevirtual index, 3))
    (k : ∀ v T' h' L, Stand p l e R s m args below meth c T' (locs ++ L) (cells + rm.cells) (slots + rm.slots) → T'.heap = h' → Qc v h' L → own_Fin p e below s C N Q (T'.setTop (mkF m (pc + 3) Ls (v.toList ++ rest)))) :
    own_Fin p e below s C N Q (T.setTop (mkF m pc Ls St)) := by
  subst hs
  obtain ⟨cq, kq, qa, qb, qc⟩ := isOf hZ eT E
  obtain ⟨v, _, ⟨T', L', k', n'⟩, -, X', ⟨Lc, hQ, l1, y1, z1⟩, st⟩ := X.virtualBack hx (y := y) (z := z) hown (mvT hZ wl) (mvT hZ wd) hnf (mvT hZ wse) (mvT hZ win) hy (backOf (W := W) (hM []) hZ wc wi hfr hlo) qa qc (g := mkF m pc Ls (argsL.reverse ++ .ref b :: rest)) rfl hsize (Steps.refl _) (argsL := argsL) (rest := rest) (lenOf hpd hlen) rfl (by show 2 * 0 + _ ≤ _; simpa using hW) hd (fun _ _ => ⟨rfl, eT, hce, hsl⟩)
  dsimp only [Pt.U, Pt.locs, Pt.cells, Pt.slots] at X' l1 y1 z1 st hQ
  subst l1 y1 z1
  exact own_of (fun t k => st.trans k) (k _ _ _ _ X' rfl hQ)
theorem own_callC (X : Stand p l e R s m args below meth c T locs cells slots) (hx : p.tables.exec = Jvm.exec) (hZ : Z.Warmed39 s.vm) {own : String} {index : Nat} {y : MethodName} {bytes : ByteArray} {maxL : Nat} {rm : Room} {W : Nat} {argsL : List Value} {Qc : Option Value → Heap → List Loc → Prop} (hn : y.name = "<init>")
    (hown : s.vm.findClass own = some m.cls) (wl : (Cond.methodLink own index y).before a0 Z = true) (win : (Cond.instanceMethod y).before a0 Z = true) (wi : (Cond.initialized y.cls).before a0 Z = true) (wc : (Cond.code y bytes maxL none).before a0 Z = true) (hy : y.cls ≠ "java/lang/invoke/MethodHandle" ∧ y.cls ≠ "java/lang/invoke/VarHandle")
    (eT : T.heap = h) (hM : own_Met l Z y bytes maxL none rm (.ref b :: argsL).toArray h Qc) (hfr : rm.frames + 1 ≤ R.frames) (hlo : W + (maxL + 11) + rm.locals ≤ R.locals) (hce : cells + rm.cells ≤ R.cells) (hsl : slots + rm.slots ≤ R.slots)
    (hsize : Ls.size = c.maxLocals) {ps : List FieldType} {r : Option FieldType} (hpd : parseMethodDescriptor y.desc = some ⟨ps, r⟩) (hlen : argsL.length = ps.length) {St : List Value} (hs : St = argsL.reverse ++ .ref b :: rest) (hW : (rest.map fun v => v.category).sum ≤ W) (hd : decode c.code pc = .ok (.invokespecial index, 3))
    (k : ∀ v T' h' L, Stand p l e R s m args below meth c T' (locs ++ L) (cells + rm.cells) (slots + rm.slots) → T'.heap = h' → Qc v h' L → own_Fin p e below s C N Q (T'.setTop (mkF m (pc + 3) Ls (v.toList ++ rest)))) :
    own_Fin p e below s C N Q (T.setTop (mkF m pc Ls St)) := by
  subst hs
  obtain ⟨v, _, ⟨T', L', k', n'⟩, -, X', ⟨Lc, hQ, l1, y1, z1⟩, st⟩ := X.specialBack hx (y := y) hn hown (mvT hZ wl) (mvT hZ win) (mvT hZ wc) hy (backOf (W := W) (hM []) hZ wc wi hfr hlo) (g := mkF m pc Ls (argsL.reverse ++ .ref b :: rest)) rfl hsize (Steps.refl _) (a := b) (argsL := argsL) (rest := rest) (lenOf hpd hlen) rfl (by show 2 * 0 + _ ≤ _; simpa using hW) hd (fun _ _ => ⟨rfl, eT, hce, hsl⟩)
  dsimp only [Pt.U, Pt.locs, Pt.cells, Pt.slots] at X' l1 y1 z1 st hQ
  subst l1 y1 z1
  exact own_of (fun t k => st.trans k) (k _ _ _ _ X' rfl hQ)
/-! arrays: n places, the j-th holds f j -/
def own_Arf (Z : State) (h : Heap) (a : Addr) (ty : FieldType) (n : Nat) (f : Nat → Value) : Prop := ∃ cl : Cell, Arr Z h a cl ty ∧ cl.slots.size = n ∧ ∀ j, j < n → cl.slots[j]? = some (f j)
section Ar
variable {ty : FieldType} {n : Nat} {f g : Nat → Value} {sl : Nat} {v : Value} {ws : List Addr}
theorem own_Arf.lt (F : own_Arf Z h a ty n f) : a < h.size := by obtain ⟨cl, A, -⟩ := F; exact A.lt
theorem own_Arf.ext (F : own_Arf Z h a ty n f) (E : Ext h h') : own_Arf Z h' a ty n f := by obtain ⟨cl, A, r⟩ := F; exact ⟨cl, A.ext E, r⟩
theorem own_Arf.other (F : own_Arf Z h b ty n f) (W : Wr h h' a sl v) (q : b ≠ a) : own_Arf Z h' b ty n f := by obtain ⟨cl, A, r⟩ := F; exact ⟨cl, A.other W q, r⟩
theorem own_Arf.keep (F : own_Arf Z h a ty n f) (K : Keep h h' ws) (q : a ∉ ws) : own_Arf Z h' a ty n f := by obtain ⟨cl, A, r⟩ := F; exact ⟨cl, ⟨K.2.1 a cl A.1 q, A.2⟩, r⟩
theorem own_Arf.congr (F : own_Arf Z h a ty n f) (q : ∀ j, j < n → f j = g j) : own_Arf Z h a ty n g := by obtain ⟨cl, A, r, s⟩ := F; exact ⟨cl, A, r, fun j hj => by rw [s j hj, q j hj]⟩
theorem own_Arf.set (F : own_Arf Z h a ty n f) (W : Wr h h' a sl v) : own_Arf Z h' a ty n (fun j => if j = sl then v else f j) := by
  obtain ⟨cl, A, r, q⟩ := F
  refine ⟨_, A.same W, by rw [sz_set]; exact r, fun j hj => ?_⟩
  by_cases u : j = sl
  · subst u; simp [Cell.setSlot, r, hj]
  · show (cl.slots.setIfInBounds sl v)[j]? = some (if j = sl then v else f j)
    rw [if_neg u, Array.getElem?_setIfInBounds_ne (Ne.symm u)]; exact q j hj
theorem own_Arf.new {k : ClassId} {z : Int32} (A : Arr Z h a (newA k ty z) ty) (hz : z.toInt = n) : own_Arf Z h a ty n (fun _ => defaultValue ty) := by
  have e : z.toNatClampNeg = n := by simp only [Int32.toNatClampNeg, hz]; rfl
  refine ⟨_, A, by rw [sz_new]; exact e, fun j hj => ?_⟩
  simp [newA, e, hj]
theorem own_in {j : Int32} {i k : Nat} (hj : j.toInt = i) (hi : i < k) : ¬ (j < 0 ∨ k ≤ j.toNatClampNeg) := by
  simp only [Int32.lt_iff_toInt_lt, Int32.toNatClampNeg, hj, Int32.reduceToInt]; omega
theorem own_nc {j : Int32} {i : Nat} (hj : j.toInt = i) : j.toNatClampNeg = i := by simp only [Int32.toNatClampNeg, hj]; rfl
theorem own_iaload (X : Stand p l e R s m args below meth c T locs cells slots) (hx : p.tables.exec = Jvm.exec) (hZ : Z.Warmed39 s.vm) (eT : T.heap = h) (F : own_Arf Z h a .int n f) {j : Int32} {i : Nat} (hj : j.toInt = i) (hi : i < n) (hv : f i = v) (hd : decode c.code pc = .ok (.iaload, 1))
    (k : own_Fin p e below s C N Q (T.setTop (mkF m (pc + 1) Ls (v :: rest)))) : own_Fin p e below s C N Q (T.setTop (mkF m pc Ls (.int j :: .ref a :: rest))) := by
  obtain ⟨cl, A, r, q⟩ := F
  exact own_of (fun t kk => X.iaload hx (j := j) (v := v) (by rw [eT]; exact A.1) (State.isArrayOf_alike hZ.alike A.2.1) A.2.2 (own_in hj (by rw [r]; exact hi)) (by rw [own_nc hj, q i hi, hv]) (g := mkF m pc Ls (.int j :: .ref a :: rest)) rfl rfl hd t kk) k
theorem own_laload (X : Stand p l e R s m args below meth c T locs cells slots) (hx : p.tables.exec = Jvm.exec) (hZ : Z.Warmed39 s.vm) (eT : T.heap = h) (F : own_Arf Z h a .long n f) {j : Int32} {i : Nat} (hj : j.toInt = i) (hi : i < n) (hv : f i = v) (hd : decode c.code pc = .ok (.laload, 1))
    (k : own_Fin p e below s C N Q (T.setTop (mkF m (pc + 1) Ls (v :: rest)))) : own_Fin p e below s C N Q (T.setTop (mkF m pc Ls (.int j :: .ref a :: rest))) := by
  obtain ⟨cl, A, r, q⟩ := F
  exact own_of (fun t kk => X.laload hx (j := j) (v := v) (by rw [eT]; exact A.1) (State.isArrayOf_alike hZ.alike A.2.1) A.2.2 (own_in hj (by rw [r]; exact hi)) (by rw [own_nc hj, q i hi, hv]) (g := mkF m pc Ls (.int j :: .ref a :: rest)) rfl rfl hd t kk) k
theorem own_caload (X : Stand p l e R s m args below meth c T locs cells slots) (hx : p.tables.exec = Jvm.exec) (hZ : Z.Warmed39 s.vm) (eT : T.heap = h) (F : own_Arf Z h a .char n f) {j : Int32} {i : Nat} (hj : j.toInt = i) (hi : i < n) (hv : f i = v) (hd : decode c.code pc = .ok (.caload, 1))
    (k : own_Fin p e below s C N Q (T.setTop (mkF m (pc + 1) Ls (v :: rest)))) : own_Fin p e below s C N Q (T.setTop (mkF m pc Ls (.int j :: .ref a :: rest))) := by
  obtain ⟨cl, A, r, q⟩ := F
  exact own_of (fun t kk => X.caload hx (j := j) (v := v) (by rw [eT]; exact A.1) (State.isArrayOf_alike hZ.alike A.2.1) A.2.2 (own_in hj (by rw [r]; exact hi)) (by rw [own_nc hj, q i hi, hv]) (g := mkF m pc Ls (.int j :: .ref a :: rest)) rfl rfl hd t kk) k
theorem own_baload (X : Stand p l e R s m args below meth c T locs cells slots) (hx : p.tables.exec = Jvm.exec) (hZ : Z.Warmed39 s.vm) (eT : T.heap = h) (F : own_Arf Z h a .byte n f) {j : Int32} {i : Nat} (hj : j.toInt = i) (hi : i < n) (hv : f i = v) (hd : decode c.code pc = .ok (.baload, 1))
    (k : own_Fin p e below s C N Q (T.setTop (mkF m (pc + 1) Ls (v :: rest)))) : own_Fin p e below s C N Q (T.setTop (mkF m pc Ls (.int j :: .ref a :: rest))) := by
  obtain ⟨cl, A, r, q⟩ := F
  exact own_of (fun t kk => X.baloadBytes hx (j := j) (v := v) (by rw [eT]; exact A.1) (State.isArrayOf_alike hZ.alike A.2.1) A.2.2 (own_in hj (by rw [r]; exact hi)) (by rw [own_nc hj, q i hi, hv]) (g := mkF m pc Ls (.int j :: .ref a :: rest)) rfl rfl hd t kk) k
theorem own_zaload (X : Stand p l e R s m args below meth c T locs cells slots) (hx : p.tables.exec = Jvm.exec) (hZ : Z.Warmed39 s.vm) (eT : T.heap = h) (F : own_Arf Z h a .boolean n f) {j : Int32} {i : Nat} (hj : j.toInt = i) (hi : i < n) (hv : f i = v) (hd : decode c.code pc = .ok (.baload, 1))
    (k : own_Fin p e below s C N Q (T.setTop (mkF m (pc + 1) Ls (v :: rest)))) : own_Fin p e below s C N Q (T.setTop (mkF m pc Ls (.int j :: .ref a :: rest))) := by
  obtain ⟨cl, A, r, q⟩ := F
  exact own_of (fun t kk => X.baloadBooleans hx (j := j) (v := v) (by rw [eT]; exact A.1) (State.isArrayOf_alike hZ.alike A.2.1) A.2.2 (own_in hj (by rw [r]; exact hi)) (by rw [own_nc hj, q i hi, hv]) (g := mkF m pc Ls (.int j :: .ref a :: rest)) rfl rfl hd t kk) k
theorem own_arraylength (X : Stand p l e R s m args below meth c T locs cells slots) (hx : p.tables.exec = Jvm.exec) (hZ : Z.Warmed39 s.vm) (eT : T.heap = h) (F : own_Arf Z h a ty n f) {z : Int32} (hz : z.toInt = n) (hd : decode c.code pc = .ok (.arraylength, 1))
    (k : own_Fin p e below s C N Q (T.setTop (mkF m (pc + 1) Ls (.int z :: rest)))) : own_Fin p e below s C N Q (T.setTop (mkF m pc Ls (.ref a :: rest))) := by
  obtain ⟨cl, A, r, q⟩ := F
  have e1 : cl.slots.size.toInt32 = z := by
    have hlt := Int32.toInt_lt z
    apply Int32.toInt_inj.mp
    rw [r, len_toInt (by omega), hz]
  refine own_of (fun t kk => X.arraylength hx (by rw [eT]; exact A.1) (State.isArrayOf_alike hZ.alike A.2.1) (g := mkF m pc Ls (.ref a :: rest)) rfl rfl hd t kk) ?_
  rw [e1]; exact k
variable {n0 : Nat}
theorem own_st {kd : Value} {i : Nat} {j : Int32} (hj : j.toInt = i) (F : own_Arf Z h a ty n f) (hN : Fr n0 locs) (ge : n0 ≤ a) {A : State} {fr : JFrame}
    (hst : ∃ T' h', Stand p l e R s m args below meth c T' (locs ++ [⟨a, j.toNatClampNeg⟩]) cells slots ∧ T'.heap = h' ∧ Wr h h' a j.toNatClampNeg kd ∧ ∀ target, Steps p.tables e below (T'.setTop fr) target → Steps p.tables e below A target)
    (k : ∀ T' h' locs', Stand p l e R s m args below meth c T' locs' cells slots → Fr n0 locs' → T'.heap = h' → Wr h h' a i kd → own_Arf Z h' a ty n (fun j => if j = i then kd else f j) → own_Fin p e below s C N Q (T'.setTop fr)) :
    own_Fin p e below s C N Q A := by
  obtain ⟨T', h', X', e', W, st⟩ := hst
  have hN' := Fr.snoc X' hN ge
  rw [own_nc hj] at W
  exact own_of st (k T' h' _ X' hN' e' W (F.set W))
theorem own_iastore (X : Stand p l e R s m args below meth c T locs cells slots) (hx : p.tables.exec = Jvm.exec) (hZ : Z.Warmed39 s.vm) (eT : T.heap = h) (F : own_Arf Z h a .int n f) (hN : Fr n0 locs) (ge : n0 ≤ a) {j x : Int32} {i : Nat} (hj : j.toInt = i) (hi : i < n) (hd : decode c.code pc = .ok (.iastore, 1))
    (k : ∀ T' h' locs', Stand p l e R s m args below meth c T' locs' cells slots → Fr n0 locs' → T'.heap = h' → Wr h h' a i (.int x) → own_Arf Z h' a .int n (fun j => if j = i then .int x else f j) → own_Fin p e below s C N Q (T'.setTop (mkF m (pc + 1) Ls rest))) :
    own_Fin p e below s C N Q (T.setTop (mkF m pc Ls (.int x :: .int j :: .ref a :: rest))) := by
  have F' := F
  obtain ⟨cl, A, r, q⟩ := F
  exact own_st hj F' hN ge (stI X hx hZ eT A (j := j) (own_in hj (by rw [r]; exact hi)) (g := mkF m pc Ls (.int x :: .int j :: .ref a :: rest)) rfl rfl hd) k
theorem own_lastore (X : Stand p l e R s m args below meth c T locs cells slots) (hx : p.tables.exec = Jvm.exec) (hZ : Z.Warmed39 s.vm) (eT : T.heap = h) (F : own_Arf Z h a .long n f) (hN : Fr n0 locs) (ge : n0 ≤ a) {j : Int32} {x : Int64} {i : Nat} (hj : j.toInt = i) (hi : i < n) (hd : decode c.code pc = .ok (.lastore, 1))
    (k : ∀ T' h' locs', Stand p l e R s m args below meth c T' locs' cells slots → Fr n0 locs' → T'.heap = h' → Wr h h' a i (.long x) → own_Arf Z h' a .long n (fun j => if j = i then .long x else f j) → own_Fin p e below s C N Q (T'.setTop (mkF m (pc + 1) Ls rest))) :
    own_Fin p e below s C N Q (T.setTop (mkF m pc Ls (.long x :: .int j :: .ref a :: rest))) := by
  have F' := F
  obtain ⟨cl, A, r, q⟩ := F
  exact own_st hj F' hN ge (stJ X hx hZ eT A (j := j) (own_in hj (by rw [r]; exact hi)) (g := mkF m pc Ls (.long x :: .int j :: .ref a :: rest)) rfl rfl hd) k
theorem own_bastore (X : Stand p l e R s m args below meth c T locs cells slots) (hx : p.tables.exec = Jvm.exec) (hZ : Z.Warmed39 s.vm) (eT : T.heap = h) (F : own_Arf Z h a .byte n f) (hN : Fr n0 locs) (ge : n0 ≤ a) {j x : Int32} {i : Nat} (hj : j.toInt = i) (hi : i < n) (hd : decode c.code pc = .ok (.bastore, 1))
    (k : ∀ T' h' locs', Stand p l e R s m args below meth c T' locs' cells slots → Fr n0 locs' → T'.heap = h' → Wr h h' a i (.int x.toInt8.toInt32) → own_Arf Z h' a .byte n (fun j => if j = i then .int x.toInt8.toInt32 else f j) → own_Fin p e below s C N Q (T'.setTop (mkF m (pc + 1) Ls rest))) :
    own_Fin p e below s C N Q (T.setTop (mkF m pc Ls (.int x :: .int j :: .ref a :: rest))) := by
  have F' := F
  obtain ⟨cl, A, r, q⟩ := F
  exact own_st hj F' hN ge (stB X hx hZ eT A (j := j) (own_in hj (by rw [r]; exact hi)) (g := mkF m pc Ls (.int x :: .int j :: .ref a :: rest)) rfl rfl hd) k
theorem own_castore (X : Stand p l e R s m args below meth c T locs cells slots) (hx : p.tables.exec = Jvm.exec) (hZ : Z.Warmed39 s.vm) (eT : T.heap = h) (F : own_Arf Z h a .char n f) (hN : Fr n0 locs) (ge : n0 ≤ a) {j x : Int32} {i : Nat} (hj : j.toInt = i) (hi : i < n) (hd : decode c.code pc = .ok (.castore, 1))
    (k : ∀ T' h' locs', Stand p l e R s m args below meth c T' locs' cells slots → Fr n0 locs' → T'.heap = h' → Wr h h' a i (.int x.toUInt32.toUInt16.toUInt32.toInt32) → own_Arf Z h' a .char n (fun j => if j = i then .int x.toUInt32.toUInt16.toUInt32.toInt32 else f j) → own_Fin p e below s C N Q (T'.setTop (mkF m (pc + 1) Ls rest))) :
    own_Fin p e below s C N Q (T.setTop (mkF m pc Ls (.int x :: .int j :: .ref a :: rest))) := by
  have F' := F
  obtain ⟨cl, A, r, q⟩ := F
  exact own_st hj F' hN ge (stC X hx hZ eT A (j := j) (own_in hj (by rw [r]; exact hi)) (g := mkF m pc Ls (.int x :: .int j :: .ref a :: rest)) rfl rfl hd) k
theorem own_zastore (X : Stand p l e R s m args below meth c T locs cells slots) (hx : p.tables.exec = Jvm.exec) (hZ : Z.Warmed39 s.vm) (eT : T.heap = h) (F : own_Arf Z h a .boolean n f) (hN : Fr n0 locs) (ge : n0 ≤ a) {j x : Int32} {i : Nat} (hj : j.toInt = i) (hi : i < n) (hd : decode c.code pc = .ok (.bastore, 1))
    (k : ∀ T' h' locs', Stand p l e R s m args below meth c T' locs' cells slots → Fr n0 locs' → T'.heap = h' → Wr h h' a i (.int (x &&& 1)) → own_Arf Z h' a .boolean n (fun j => if j = i then .int (x &&& 1) else f j) → own_Fin p e below s C N Q (T'.setTop (mkF m (pc + 1) Ls rest))) :
    own_Fin p e below s C N Q (T.setTop (mkF m pc Ls (.int x :: .int j :: .ref a :: rest))) := by
  have F' := F
  obtain ⟨cl, A, r, q⟩ := F
  exact own_st hj F' hN ge (stZ X hx hZ eT A (j := j) (own_in hj (by rw [r]; exact hi)) (g := mkF m pc Ls (.int x :: .int j :: .ref a :: rest)) rfl rfl hd) k
theorem own_newP (X : Stand p l e R s m args below meth c T locs cells slots) (hx : p.tables.exec = Jvm.exec) (hZ : Z.Warmed39 s.vm) {aty : ArrayType} (w : (Cond.arrayClass (newarray.typeOf aty)).before a0 Z = true) (eT : T.heap = h) (hd : decode c.code pc = .ok (.newarray aty, 2)) {z : Int32} (hz : z.toInt = n) {cap : Nat} (hcap : n ≤ cap) (hb : cap * 8 ≤ 536870912) (hc : cells + 1 ≤ R.cells) (hl : slots + cap ≤ R.slots)
    (k : ∀ T' h' b, Stand p l e R s m args below meth c T' locs (cells + 1) (slots + cap) → T'.heap = h' → Ext h h' → b = h.size → own_Arf Z h' b (newarray.typeOf aty) n (fun _ => defaultValue (newarray.typeOf aty)) → own_Fin p e below s C N Q (T'.setTop (mkF m (pc + 2) Ls (.ref b :: rest)))) :
    own_Fin p e below s C N Q (T.setTop (mkF m pc Ls (.int z :: rest))) := by
  obtain ⟨T', h', cA, X', e', E, A, st⟩ := newP X hx hZ w eT (g := mkF m pc Ls (.int z :: rest)) rfl hd rfl (by rw [Int32.lt_iff_toInt_lt, hz]; show ¬ (n : Int) < 0; omega) (cap := cap) (by rw [own_nc hz]; exact hcap) hb hc hl
  exact own_of st (k T' h' _ X' e' E rfl (own_Arf.new A hz))
end Ar
/-! objects -/
section Ob
variable {n0 : Nat} {v : Value}
theorem own_getF (X : Stand p l e R s m args below meth c T locs cells slots) (hx : p.tables.exec = Jvm.exec) (hZ : Z.Warmed39 s.vm) {own O n d : String} {index : Nat} (hown : s.vm.findClass own = some m.cls) (w : (Cond.fieldLink own index O n d).before a0 Z = true) (eT : T.heap = h) (F : Fld Z h a O n d v) (hd : decode c.code pc = .ok (.getfield index, 3))
    (k : ∀ T', Stand p l e R s m args below meth c T' locs cells slots → T'.heap = h → own_Fin p e below s C N Q (T'.setTop (mkF m (pc + 3) Ls (v :: rest)))) :
    own_Fin p e below s C N Q (T.setTop (mkF m pc Ls (.ref a :: rest))) := by
  obtain ⟨T', X', e', st⟩ := getF X hx hZ hown (host := "") (Or.inl w) Via.refl eT F (g := mkF m pc Ls (.ref a :: rest)) rfl rfl hd
  exact own_of st (k T' X' e')
theorem own_putF (X : Stand p l e R s m args below meth c T locs cells slots) (hx : p.tables.exec = Jvm.exec) (hZ : Z.Warmed39 s.vm) {own O n d K : String} {index kk : Nat} {ty : FieldType} {old : Value} (hown : s.vm.findClass own = some m.cls) (w : (Cond.fieldLink own index O n d).before a0 Z = true) (eT : T.heap = h) (F : Fld Z h a O n d old) (E : Exa Z h a K)
    (L : (Cond.lays K O n d).before a0 Z = true ∨ ((Cond.laysFinal K O n d).before a0 Z = true ∧ own = O ∧ meth.name = "<init>")) (wi : (Cond.instantiable K kk).before a0 Z = true) (hty : parseFieldDescriptor d = some ty) (hn : narrow ty v = v) (hf : fits ty v = true) (hN : Fr n0 locs) (ge : n0 ≤ a) (hd : decode c.code pc = .ok (.putfield index, 3))
    (k : ∀ T' h' locs', Stand p l e R s m args below meth c T' locs' cells slots → Fr n0 locs' → T'.heap = h' → Wr h h' a (slotOf Z O n d) v → own_Fin p e below s C N Q (T'.setTop (mkF m (pc + 3) Ls rest))) :
    own_Fin p e below s C N Q (T.setTop (mkF m pc Ls (v :: .ref a :: rest))) := by
  obtain ⟨T', h', X', e', W, st⟩ := putF X hx hZ hown (host := "") (Or.inl w) Via.refl eT F E L wi hty hn hf (g := mkF m pc Ls (v :: .ref a :: rest)) rfl rfl hd
  exact own_of st (k T' h' _ X' (Fr.snoc X' hN ge) e' W)
theorem own_newO (X : Stand p l e R s m args below meth c T locs cells slots) (hx : p.tables.exec = Jvm.exec) (hZ : Z.Warmed39 s.vm) {own K : String} {index n : Nat} (hown : s.vm.findClass own = some m.cls) (w : (Cond.classLink own index K).before a0 Z = true) (wi : (Cond.instantiable K n).before a0 Z = true) (wz : (Cond.initialized K).before a0 Z = true) (eT : T.heap = h) (hd : decode c.code pc = .ok (.new index, 3)) (hc : cells + 1 ≤ R.cells) (hl : slots + n ≤ R.slots)
    (k : ∀ T' h' b, Stand p l e R s m args below meth c T' locs (cells + 1) (slots + n) → T'.heap = h' → Ext h h' → b = h.size → Exa Z h' b K → (∀ {O nm d : String} {ty : FieldType}, Laid Z a0 K O nm d → parseFieldDescriptor d = some ty → Fld Z h' b O nm d (defaultValue ty)) → own_Fin p e below s C N Q (T'.setTop (mkF m (pc + 3) Ls (.ref b :: rest)))) :
    own_Fin p e below s C N Q (T.setTop (mkF m pc Ls rest)) := by
  obtain ⟨T', h', X', e', E, A, D, -, st⟩ := newO X hx hZ hown w wi wz eT (g := mkF m pc Ls rest) rfl hd hc hl
  exact own_of st (k T' h' _ X' e' E rfl A D)
theorem own_initO (X : Stand p l e R s m args below meth c T locs cells slots) (hx : p.tables.exec = Jvm.exec) (hZ : Z.Warmed39 s.vm) {own : String} {idx : Nat} (hown : s.vm.findClass own = some m.cls) (w1 : (Cond.methodLink own idx Lib.objectInit).before a0 Z = true) (w2 : (Cond.instanceMethod Lib.objectInit).before a0 Z = true) (w3 : (Cond.code Lib.objectInit ⟨#[0xb1]⟩ 1 none).before a0 Z = true) (eT : T.heap = h) (hsize : Ls.size = c.maxLocals) (hd : decode c.code pc = .ok (.invokespecial idx, 3)) (hf : 1 ≤ R.frames) {W : Nat} (hW : (rest.map fun v => v.category).sum ≤ W) (hl : W + 12 ≤ R.locals)
    (k : ∀ T', Stand p l e R s m args below meth c T' locs cells slots → T'.heap = h → own_Fin p e below s C N Q (T'.setTop (mkF m (pc + 3) Ls rest))) :
    own_Fin p e below s C N Q (T.setTop (mkF m pc Ls (.ref a :: rest))) := by
  obtain ⟨T', X', e', st⟩ := initO X hx hZ hown w1 w2 w3 eT (g := mkF m pc Ls (.ref a :: rest)) rfl hsize rfl hd hf (W := W) (by show 2 * 0 + _ ≤ _; simpa using hW) hl
  exact own_of st (k T' X' e')
theorem own_wide (X : Stand p l e R s m args below meth c T locs cells slots) {cells' slots' : Nat} (h1 : cells ≤ cells') (h2 : slots ≤ slots') : Stand p l e R s m args below meth c T locs cells' slots' := { X with same := X.same.mono h1 h2 }
end Ob
theorem own_lremM {g : JFrame} {target : State} (X : Stand p l e R s m args below meth c T locs cells slots) (hx : p.tables.exec = Jvm.exec) (hg : g.method = m) {x y : Int64} (hd : decode c.code g.pc = .ok (.lrem, 1)) (hs : g.stack = .long y :: .long x :: rest) (hy : y ≠ 0)
    (hr : Steps p.tables e below (T.setTop { g with pc := g.pc + 1, stack := .long (x % y) :: rest }) target) : Steps p.tables e below (T.setTop g) target := by
  refine XS.lrem X.here hx hg hd hs hy ?_
  rw [lrem_mod]; exact hr
end OwnKit
def own_iushr (x y : Int32) : Int32 := (x.toUInt32 >>> (y &&& 31).toUInt32).toInt32
def own_ishl (x y : Int32) : Int32 := x <<< (y &&& 31)
def own_ishr (x y : Int32) : Int32 := x >>> (y &&& 31)
def own_lushr (x : Int64) (y : Int32) : Int64 := (x.toUInt64 >>> (y &&& 0x3f).toInt64.toUInt64).toInt64
def own_lshl (x : Int64) (y : Int32) : Int64 := x <<< (y &&& 0x3f).toInt64
def own_lshr (x : Int64) (y : Int32) : Int64 := x >>> (y &&& 0x3f).toInt64
def own_i2b (x : Int32) : Int32 := x.toInt8.toInt32
def own_i2c (x : Int32) : Int32 := x.toUInt32.toUInt16.toUInt32.toInt32
def own_i2s (x : Int32) : Int32 := x.toInt16.toInt32
end Jvm.RoadKit
namespace Jvm.RoadKit
open Sem ClassFile Op Lib Jvm.Stand Jvm.Free Jvm.LawKit
section OwnKit2
variable {p : Program} {l : Launch} {e : Env} {R : Room} {s : State} {m : MethodId} {args : Array Value} {below : List Frame} {meth : Method} {c : Code} {T : State} {locs : List Loc} {cells slots : Nat} {Z : State} {a0 : Array Value} {h h' : Heap} {a b : Addr}
variable {C N : Nat} {Q : Option Value → Heap → List Loc → Prop} {pc : Nat} {Ls : Array Slot} {rest : List Value}
/-- a private method is selected itself -/
theorem own_selP {y : MethodName} {s : State} {args : Array Value} {n : Nat} (hy : y.cls ≠ "java/lang/invoke/MethodHandle" ∧ y.cls ≠ "java/lang/invoke/VarHandle") (hins : (Cond.instantiable y.cls n).before args s = true) (hpriv : (Cond.privateMethod y).before args s = true) (hinst : (Cond.instanceMethod y).before args s = true) :
    (Cond.selects y.cls y y).before args s = true := by
  obtain ⟨c, k, hc, hk, -, hniab, -, -⟩ := Cond.instantiable_spec hins
  have hni : k.isInterface = false := (Bool.or_eq_false_iff.mp hniab).1
  obtain ⟨mk, methM, hnamed, hmethM, -, -⟩ := Cond.instanceMethod_spec hinst
  have hfound : s.methodFound? y.cls y.name y.desc = some mk := State.methodFound?_of_named hnamed hy
  have hcls : mk.cls = c := Option.some.inj ((findClass_of_methodNamed hnamed).symm.trans hc)
  have hsel : selectMethod {} s.vm c mk = .method mk := selectMethod_private hmethM (Cond.privateMethod_at hpriv mk methM hnamed hmethM)
  simp only [Cond.before, Cond.holds, Cond.value, hc, hfound, hnamed, hsel, hcls, hk]
  simp; exact hni
theorem own_callX (X : Stand p l e R s m args below meth c T locs cells slots) (hx : p.tables.exec = Jvm.exec) (hZ : Z.Warmed39 s.vm) {own : String} {index nn : Nat} {y : MethodName} {bytes : ByteArray} {maxL : Nat} {ret : Option FieldType} {rm : Room} {W : Nat} {argsL : List Value} {Qc : Option Value → Heap → List Loc → Prop}
    (hown : s.vm.findClass own = some m.cls) (wl : (Cond.methodLink own index y).before a0 Z = true) (win : (Cond.instanceMethod y).before a0 Z = true) (wp : (Cond.privateMethod y).before a0 Z = true) (wn : (Cond.instantiable y.cls nn).before a0 Z = true) (wi : (Cond.initialized y.cls).before a0 Z = true) (wc : (Cond.code y bytes maxL ret).before a0 Z = true) (hy : y.cls ≠ "java/lang/invoke/MethodHandle" ∧ y.cls ≠ "java/lang/invoke/VarHandle")
    (eT : T.heap = h) (E : Exa Z h b y.cls) (hM : own_Met l Z y bytes maxL ret rm (.ref b :: argsL).toArray h Qc) (hfr : rm.frames + 1 ≤ R.frames) (hlo : W + (maxL + 11) + rm.locals ≤ R.locals) (hce : cells + rm.cells ≤ R.cells) (hsl : slots + rm.slots ≤ R.slots)
    (hsize : Ls.size = c.maxLocals) {ps : List FieldType} {r : Option FieldType} (hpd : parseMethodDescriptor y.desc = some ⟨ps, r⟩) (hlen : argsL.length = ps.length) {St : List Value} (hs : St = argsL.reverse ++ .ref b :: rest) (hW : (rest.map fun v => v.category).sum ≤ W) (hd : decode c.code pc = .ok (.invokevirtual index, 3))
    (k : ∀ v T' h' L, Stand p l e R s m args below meth c T' (locs ++ L) (cells + rm.cells) (slots + rm.slots) → T'.heap = h' → Qc v h' L → own_Fin p e below s C N Q (T'.setTop (mkF m (pc + 3) Ls (v.toList ++ rest)))) :
    own_Fin p e below s C N Q (T.setTop (mkF m pc Ls St)) := by
  subst hs
  obtain ⟨cl, q1, q2⟩ := E.cell
  obtain ⟨v, _, ⟨T', L', k', n'⟩, -, X', ⟨Lc, hQ, l1, y1, z1⟩, st⟩ := X.privateBack hx (y := y) hown (mvT hZ wl) (mvT hZ win) (mvT hZ (own_selP hy wn wp win)) (Cond.privateMethod_at (mvP hZ wp (args := #[]))) (mvT hZ wc) hy (backOf (W := W) (hM []) hZ wc wi hfr hlo) (g := mkF m pc Ls (argsL.reverse ++ .ref b :: rest)) rfl hsize (Steps.refl _) (a := b) (by rw [eT]; exact q1) q2 (argsL := argsL) (rest := rest) (lenOf hpd hlen) rfl (by show 2 * 0 + _ ≤ _; simpa using hW) hd (fun _ _ => ⟨rfl, eT, hce, hsl⟩)
  dsimp only [Pt.U, Pt.locs, Pt.cells, Pt.slots] at X' l1 y1 z1 st hQ
  subst l1 y1 z1
  exact own_of (fun t k => st.trans k) (k _ _ _ _ X' rfl hQ)
theorem own_newPE (X : Stand p l e R s m args below meth c T locs cells slots) (hx : p.tables.exec = Jvm.exec) (hZ : Z.Warmed39 s.vm) {n : Nat} {aty : ArrayType} (w : (Cond.arrayClass (newarray.typeOf aty)).before a0 Z = true) (eT : T.heap = h) (hd : decode c.code pc = .ok (.newarray aty, 2)) {z : Int32} (hz : z.toInt = n) {cap : Nat} (hcap : n ≤ cap) (hb : cap * 8 ≤ 536870912) (hc : cells + 1 ≤ R.cells) (hl : slots + cap ≤ R.slots) {ad : String} (had : "[" ++ (newarray.typeOf aty).toString = ad)
    (k : ∀ T' h' b, Stand p l e R s m args below meth c T' locs (cells + 1) (slots + cap) → T'.heap = h' → Ext h h' → b = h.size → own_Arf Z h' b (newarray.typeOf aty) n (fun _ => defaultValue (newarray.typeOf aty)) → Exa Z h' b ad → own_Fin p e below s C N Q (T'.setTop (mkF m (pc + 2) Ls (.ref b :: rest)))) :
    own_Fin p e below s C N Q (T.setTop (mkF m pc Ls (.int z :: rest))) := by
  obtain ⟨T', h', cA, X', e', E, A, Ex, st⟩ := newPE X hx hZ w eT (g := mkF m pc Ls (.int z :: rest)) rfl hd rfl (by rw [Int32.lt_iff_toInt_lt, hz]; show ¬ (n : Int) < 0; omega) (cap := cap) (by rw [own_nc hz]; exact hcap) hb hc hl had
  exact own_of st (k T' h' _ X' e' E rfl (own_Arf.new A hz) Ex)
theorem own_arv {n : Nat} {f : Nat → Int32} {z : Int32} (F : own_Arf Z h a .int n (fun j => .int (f j))) (hz : z.toInt = n) : ∃ k, Arv Z h a k .int z ((List.range n).map fun j => Value.int (f j)) (.int 0) := by
  obtain ⟨cl, A, r, q⟩ := F
  have e1 : cl.slots.size = z.toNatClampNeg := by rw [r, own_nc hz]
  have e2 : ∀ i, i < n → ((List.range n).map fun j => Value.int (f j)).getD i (.int 0) = .int (f i) := fun i hi => by
    simp [List.getD_eq_getElem?_getD, hi]
  exact ⟨_, cl, A, rfl, e1, by rw [Int32.lt_iff_toInt_lt, hz]; show ¬ (n : Int) < 0; omega, fun i hi => by rw [e2 i (by omega)]; exact q i (by omega), fun i hi => by rw [e2 i (by omega)]; rfl⟩
theorem own_unarv {n : Nat} {f : Nat → Value} {k : ClassId} {z : Int32} {vs : List Value} {dv : Value} (F : Arv Z h a k .int z vs dv) (hz : z.toInt = n) (hv : ∀ i, i < n → vs.getD i dv = f i) : own_Arf Z h a .int n f := by
  obtain ⟨cl, A, -, S, -, H, -⟩ := F
  rw [own_nc hz] at S
  exact ⟨cl, A, S, fun j hj => by rw [H j (by omega), hv j hj]⟩
/-- System.arraycopy(a, 0, b, 0, nn) on ints, nn places -/
theorem own_acopy (X : Stand p l e R s m args below meth c T locs cells slots) (hx : p.tables.exec = Jvm.exec) (hZ : Z.Warmed39 s.vm) {own : String} {index : Nat} (hown : s.vm.findClass own = some m.cls)
    (w1 : (Cond.methodLink own index Jvm.Stand.acN).before a0 Z = true) (w2 : (Cond.native Jvm.Stand.acN).before a0 Z = true) (w3 : (Cond.static Jvm.Stand.acN).before a0 Z = true) (w4 : (Cond.initialized "java/lang/System").before a0 Z = true) (eT : T.heap = h)
    {n n' k : Nat} {f f' : Nat → Int32} {z z' q : Int32} (F : own_Arf Z h a .int n (fun j => .int (f j))) (G : own_Arf Z h b .int n' (fun j => .int (f' j))) (hz : z.toInt = n) (hz' : z'.toInt = n') (hq : q.toInt = k) (h1 : k ≤ n) (h2 : k ≤ n') {n0 : Nat} (N' : Fr n0 locs) (ge : n0 ≤ b)
    (hsize : Ls.size = c.maxLocals) (hd : decode c.code pc = .ok (.invokestatic index, 3)) (hf : 1 ≤ R.frames) {W : Nat} (hW : (rest.map fun v => v.category).sum ≤ W) (hlo : W + (nativeFrameWords "java/lang/System" "arraycopy" 5 + 11) ≤ R.locals)
    (kk : ∀ T' h' locs', Stand p l e R s m args below meth c T' locs' cells slots → Fr n0 locs' → T'.heap = h' → Keep h h' [b] → own_Arf Z h' b .int n' (fun j => .int (if j < k then f j else f' j)) → own_Fin p e below s C N Q (T'.setTop (mkF m (pc + 3) Ls rest))) :
    own_Fin p e below s C N Q (T.setTop (mkF m pc Ls (.int q :: .int (0 : Int32) :: .ref b :: .int (0 : Int32) :: .ref a :: rest))) := by
  obtain ⟨k1, A⟩ := own_arv F hz
  obtain ⟨k2, B⟩ := own_arv G hz'
  have e0 : (0 : Int32).toNatClampNeg = 0 := by decide
  have eq : q.toNatClampNeg = k := own_nc hq
  obtain ⟨T', h', L, X', e', NL, K, A', st⟩ := cpA X hx hZ hown w1 w2 w3 w4 eT A B (Or.inl ⟨rfl, rfl⟩) (sp := 0) (dp := 0) (nn := q) (by decide) (by decide) (by rw [Int32.lt_iff_toInt_lt, hq]; show ¬ (k : Int) < 0; omega) (by rw [e0, eq, own_nc hz]; omega) (by rw [e0, eq, own_nc hz']; omega) rfl (by rw [e0, eq]; simp; omega) N' ge (g := mkF m pc Ls (.int q :: .int (0 : Int32) :: .ref b :: .int (0 : Int32) :: .ref a :: rest)) rfl hsize rfl hd hf (W := W) (by show 2 * 0 + _ ≤ _; simpa using hW) hlo
  refine own_of st (kk T' h' L X' NL e' K (own_unarv A' hz' fun i hi => ?_))
  rw [e0, eq]
  by_cases hc : i < k
  · simp [List.getD_eq_getElem?_getD, hc, List.getElem?_append, hi, show i < n by omega]
  · simp [List.getD_eq_getElem?_getD, hc, List.getElem?_append, List.getElem?_drop, show k + (i - k) = i by omega, hi]
/-- clone() of an int[] -/
theorem own_clone (X : Stand p l e R s m args below meth c T locs cells slots) (hx : p.tables.exec = Jvm.exec) (hZ : Z.Warmed39 s.vm) {own ad : String} {index : Nat} (hown : s.vm.findClass own = some m.cls)
    (w1 : (Cond.methodLink own index ⟨ad, "clone", "()Ljava/lang/Object;"⟩).before a0 Z = true) (w2 : (Cond.sameMethod ad "java/lang/Object" "clone" "()Ljava/lang/Object;").before a0 Z = true) (w3 : (Cond.native ⟨"java/lang/Object", "clone", "()Ljava/lang/Object;"⟩).before a0 Z = true)
    (w4 : (Cond.instanceMethod ⟨"java/lang/Object", "clone", "()Ljava/lang/Object;"⟩).before a0 Z = true) (w5 : (Cond.selects ad ⟨ad, "clone", "()Ljava/lang/Object;"⟩ ⟨"java/lang/Object", "clone", "()Ljava/lang/Object;"⟩).before a0 Z = true) (w6 : (Cond.castable ad "java/lang/Cloneable").before a0 Z = true)
    (eT : T.heap = h) {n : Nat} {f : Nat → Int32} {z : Int32} (F : own_Arf Z h a .int n (fun j => .int (f j))) (hz : z.toInt = n) (E : Exa Z h a ad) (hsize : Ls.size = c.maxLocals) (hd : decode c.code pc = .ok (.invokevirtual index, 3)) (hf : 1 ≤ R.frames) {W cap : Nat} (hW : (rest.map fun v => v.category).sum ≤ W) (hl : W + 14 ≤ R.locals) (hcap : n ≤ cap) (hc : cells + 1 ≤ R.cells) (hsl : slots + cap ≤ R.slots)
    (k : ∀ T' h' b, Stand p l e R s m args below meth c T' locs (cells + 1) (slots + cap) → T'.heap = h' → Ext h h' → b = h.size → own_Arf Z h' b .int n (fun j => .int (f j)) → Exa Z h' b ad → own_Fin p e below s C N Q (T'.setTop (mkF m (pc + 3) Ls (.ref b :: rest)))) :
    own_Fin p e below s C N Q (T.setTop (mkF m pc Ls (.ref a :: rest))) := by
  obtain ⟨k1, A⟩ := own_arv F hz
  obtain ⟨T', h', X', e', E', A', Ex, st⟩ := cloneH X hx hZ hown w1 w2 w3 w4 w5 w6 eT A.arh E (g := mkF m pc Ls (.ref a :: rest)) rfl hsize rfl hd hf (W := W) (cap := cap) (by show 2 * 0 + _ ≤ _; simpa using hW) hl (by rw [own_nc hz]; exact hcap) hc hsl
  exact own_of st (k T' h' _ X' e' E' rfl (own_unarv A' hz fun i hi => by simp [List.getD_eq_getElem?_getD, hi]) Ex)
theorem own_cast (X : Stand p l e R s m args below meth c T locs cells slots) (hx : p.tables.exec = Jvm.exec) (hZ : Z.Warmed39 s.vm) {own K : String} {index : Nat} (hown : s.vm.findClass own = some m.cls) (w : (Cond.classLink own index K).before a0 Z = true) (eT : T.heap = h) (F : Exa Z h a K) (hd : decode c.code pc = .ok (.checkcast index, 3))
    (k : ∀ T', Stand p l e R s m args below meth c T' locs cells slots → T'.heap = h → own_Fin p e below s C N Q (T'.setTop (mkF m (pc + 3) Ls (.ref a :: rest)))) :
    own_Fin p e below s C N Q (T.setTop (mkF m pc Ls (.ref a :: rest))) := by
  obtain ⟨T', X', e', st⟩ := castY X hx hZ hown w eT (Ins.self F) (g := mkF m pc Ls (.ref a :: rest)) rfl rfl hd
  exact own_of st (k T' X' e')
end OwnKit2
end Jvm.RoadKit
namespace Jvm.Pilot.@@N@@
open Jvm Jvm.ClassFile Sem Op Lib Jvm.Free Jvm.Stand Jvm.LawKit Jvm.RoadKit Bundle Jvm.Pilot.@@N@@.Jvm.D
theorem d1_0 : decode prog_91_method_1_code 0 = .ok (.aload_n 0, 1) := by decide +kernel
theorem d1_1 : decode prog_91_method_1_code 1 = .ok (.invokespecial 1, 3) := by decide +kernel
theorem d1_4 : decode prog_91_method_1_code 4 = .ok (.aload_n 0, 1) := by decide +kernel
theorem d1_5 : decode prog_91_method_1_code 5 = .ok (.iload_n 1, 1) := by decide +kernel
theorem d1_6 : decode prog_91_method_1_code 6 = .ok (.newarray .int, 2) := by decide +kernel
theorem d1_8 : decode prog_91_method_1_code 8 = .ok (.putfield 7, 3) := by decide +kernel
theorem d1_11 : decode prog_91_method_1_code 11 = .ok (.aload_n 0, 1) := by decide +kernel
theorem d1_12 : decode prog_91_method_1_code 12 = .ok (.iload_n 1, 1) := by decide +kernel
theorem d1_13 : decode prog_91_method_1_code 13 = .ok (.bipush 64, 2) := by decide +kernel
theorem d1_15 : decode prog_91_method_1_code 15 = .ok (.iadd, 1) := by decide +kernel
theorem d1_16 : decode prog_91_method_1_code 16 = .ok (.iconst 1, 1) := by decide +kernel
theorem d1_17 : decode prog_91_method_1_code 17 = .ok (.isub, 1) := by decide +kernel
theorem d1_18 : decode prog_91_method_1_code 18 = .ok (.bipush 64, 2) := by decide +kernel
theorem d1_20 : decode prog_91_method_1_code 20 = .ok (.idiv, 1) := by decide +kernel
theorem d1_21 : decode prog_91_method_1_code 21 = .ok (.newarray .long, 2) := by decide +kernel
theorem d1_23 : decode prog_91_method_1_code 23 = .ok (.putfield 15, 3) := by decide +kernel
theorem d1_26 : decode prog_91_method_1_code 26 = .ok (.aload_n 0, 1) := by decide +kernel
theorem d1_27 : decode prog_91_method_1_code 27 = .ok (.aload_n 0, 1) := by decide +kernel
theorem d1_28 : decode prog_91_method_1_code 28 = .ok (.getfield 15, 3) := by decide +kernel
theorem d1_31 : decode prog_91_method_1_code 31 = .ok (.arraylength, 1) := by decide +kernel
theorem d1_32 : decode prog_91_method_1_code 32 = .ok (.newarray .int, 2) := by decide +kernel
theorem d1_34 : decode prog_91_method_1_code 34 = .ok (.putfield 19, 3) := by decide +kernel
theorem d1_37 : decode prog_91_method_1_code 37 = .ok (.return_, 1) := by decide +kernel
theorem d3_0 : decode prog_91_method_2_code 0 = .ok (.iload_n 1, 1) := by decide +kernel
theorem d3_1 : decode prog_91_method_2_code 1 = .ok (.bipush 64, 2) := by decide +kernel
theorem d3_3 : decode prog_91_method_2_code 3 = .ok (.idiv, 1) := by decide +kernel
theorem d3_4 : decode prog_91_method_2_code 4 = .ok (.istore_n 2, 1) := by decide +kernel
theorem d3_5 : decode prog_91_method_2_code 5 = .ok (.lconst 1, 1) := by decide +kernel
theorem d3_6 : decode prog_91_method_2_code 6 = .ok (.iload_n 1, 1) := by decide +kernel
theorem d3_7 : decode prog_91_method_2_code 7 = .ok (.lshl, 1) := by decide +kernel
theorem d3_8 : decode prog_91_method_2_code 8 = .ok (.lstore_n 3, 1) := by decide +kernel
theorem d3_9 : decode prog_91_method_2_code 9 = .ok (.aload_n 0, 1) := by decide +kernel
theorem d3_10 : decode prog_91_method_2_code 10 = .ok (.getfield 15, 3) := by decide +kernel
theorem d3_13 : decode prog_91_method_2_code 13 = .ok (.iload_n 2, 1) := by decide +kernel
theorem d3_14 : decode prog_91_method_2_code 14 = .ok (.laload, 1) := by decide +kernel
theorem d3_15 : decode prog_91_method_2_code 15 = .ok (.lload_n 3, 1) := by decide +kernel
theorem d3_16 : decode prog_91_method_2_code 16 = .ok (.land, 1) := by decide +kernel
theorem d3_17 : decode prog_91_method_2_code 17 = .ok (.lconst 0, 1) := by decide +kernel
theorem d3_18 : decode prog_91_method_2_code 18 = .ok (.lcmp, 1) := by decide +kernel
theorem d3_19 : decode prog_91_method_2_code 19 = .ok (.ifCond .ne 58, 3) := by decide +kernel
theorem d3_22 : decode prog_91_method_2_code 22 = .ok (.aload_n 0, 1) := by decide +kernel
theorem d3_23 : decode prog_91_method_2_code 23 = .ok (.getfield 15, 3) := by decide +kernel
theorem d3_26 : decode prog_91_method_2_code 26 = .ok (.iload_n 2, 1) := by decide +kernel
theorem d3_27 : decode prog_91_method_2_code 27 = .ok (.laload, 1) := by decide +kernel
theorem d3_28 : decode prog_91_method_2_code 28 = .ok (.lconst 0, 1) := by decide +kernel
theorem d3_29 : decode prog_91_method_2_code 29 = .ok (.lcmp, 1) := by decide +kernel
theorem d3_30 : decode prog_91_method_2_code 30 = .ok (.ifCond .ne 20, 3) := by decide +kernel
theorem d3_33 : decode prog_91_method_2_code 33 = .ok (.aload_n 0, 1) := by decide +kernel
theorem d3_34 : decode prog_91_method_2_code 34 = .ok (.getfield 19, 3) := by decide +kernel
theorem d3_37 : decode prog_91_method_2_code 37 = .ok (.aload_n 0, 1) := by decide +kernel
theorem d3_38 : decode prog_91_method_2_code 38 = .ok (.dup, 1) := by decide +kernel
theorem d3_39 : decode prog_91_method_2_code 39 = .ok (.getfield 22, 3) := by decide +kernel
theorem d3_42 : decode prog_91_method_2_code 42 = .ok (.dup_x1, 1) := by decide +kernel
theorem d3_43 : decode prog_91_method_2_code 43 = .ok (.iconst 1, 1) := by decide +kernel
theorem d3_44 : decode prog_91_method_2_code 44 = .ok (.iadd, 1) := by decide +kernel
theorem d3_45 : decode prog_91_method_2_code 45 = .ok (.putfield 22, 3) := by decide +kernel
theorem d3_48 : decode prog_91_method_2_code 48 = .ok (.iload_n 2, 1) := by decide +kernel
theorem d3_49 : decode prog_91_method_2_code 49 = .ok (.iastore, 1) := by decide +kernel
theorem d3_50 : decode prog_91_method_2_code 50 = .ok (.aload_n 0, 1) := by decide +kernel
theorem d3_51 : decode prog_91_method_2_code 51 = .ok (.getfield 15, 3) := by decide +kernel
theorem d3_54 : decode prog_91_method_2_code 54 = .ok (.iload_n 2, 1) := by decide +kernel
theorem d3_55 : decode prog_91_method_2_code 55 = .ok (.dup2, 1) := by decide +kernel
theorem d3_56 : decode prog_91_method_2_code 56 = .ok (.laload, 1) := by decide +kernel
theorem d3_57 : decode prog_91_method_2_code 57 = .ok (.lload_n 3, 1) := by decide +kernel
theorem d3_58 : decode prog_91_method_2_code 58 = .ok (.lor, 1) := by decide +kernel
theorem d3_59 : decode prog_91_method_2_code 59 = .ok (.lastore, 1) := by decide +kernel
theorem d3_60 : decode prog_91_method_2_code 60 = .ok (.aload_n 0, 1) := by decide +kernel
theorem d3_61 : decode prog_91_method_2_code 61 = .ok (.getfield 7, 3) := by decide +kernel
theorem d3_64 : decode prog_91_method_2_code 64 = .ok (.aload_n 0, 1) := by decide +kernel
theorem d3_65 : decode prog_91_method_2_code 65 = .ok (.dup, 1) := by decide +kernel
theorem d3_66 : decode prog_91_method_2_code 66 = .ok (.getfield 26, 3) := by decide +kernel
theorem d3_69 : decode prog_91_method_2_code 69 = .ok (.dup_x1, 1) := by decide +kernel
theorem d3_70 : decode prog_91_method_2_code 70 = .ok (.iconst 1, 1) := by decide +kernel
theorem d3_71 : decode prog_91_method_2_code 71 = .ok (.iadd, 1) := by decide +kernel
theorem d3_72 : decode prog_91_method_2_code 72 = .ok (.putfield 26, 3) := by decide +kernel
theorem d3_75 : decode prog_91_method_2_code 75 = .ok (.iload_n 1, 1) := by decide +kernel
theorem d3_76 : decode prog_91_method_2_code 76 = .ok (.iastore, 1) := by decide +kernel
theorem d3_77 : decode prog_91_method_2_code 77 = .ok (.return_, 1) := by decide +kernel
theorem d4_0 : decode prog_91_method_4_code 0 = .ok (.aload_n 0, 1) := by decide +kernel
theorem d4_1 : decode prog_91_method_4_code 1 = .ok (.getfield 26, 3) := by decide +kernel
theorem d4_4 : decode prog_91_method_4_code 4 = .ok (.newarray .int, 2) := by decide +kernel
theorem d4_6 : decode prog_91_method_4_code 6 = .ok (.astore_n 1, 1) := by decide +kernel
theorem d4_7 : decode prog_91_method_4_code 7 = .ok (.aload_n 0, 1) := by decide +kernel
theorem d4_8 : decode prog_91_method_4_code 8 = .ok (.getfield 19, 3) := by decide +kernel
theorem d4_11 : decode prog_91_method_4_code 11 = .ok (.iconst 0, 1) := by decide +kernel
theorem d4_12 : decode prog_91_method_4_code 12 = .ok (.aload_n 0, 1) := by decide +kernel
theorem d4_13 : decode prog_91_method_4_code 13 = .ok (.getfield 22, 3) := by decide +kernel
theorem d4_16 : decode prog_91_method_4_code 16 = .ok (.invokestatic 38, 3) := by decide +kernel
theorem d4_19 : decode prog_91_method_4_code 19 = .ok (.iconst 0, 1) := by decide +kernel
theorem d4_20 : decode prog_91_method_4_code 20 = .ok (.istore_n 2, 1) := by decide +kernel
theorem d4_21 : decode prog_91_method_4_code 21 = .ok (.iconst 0, 1) := by decide +kernel
theorem d4_22 : decode prog_91_method_4_code 22 = .ok (.istore_n 3, 1) := by decide +kernel
theorem d4_23 : decode prog_91_method_4_code 23 = .ok (.iload_n 3, 1) := by decide +kernel
theorem d4_24 : decode prog_91_method_4_code 24 = .ok (.aload_n 0, 1) := by decide +kernel
theorem d4_25 : decode prog_91_method_4_code 25 = .ok (.getfield 22, 3) := by decide +kernel
theorem d4_28 : decode prog_91_method_4_code 28 = .ok (.if_icmp .ge 62, 3) := by decide +kernel
theorem d4_31 : decode prog_91_method_4_code 31 = .ok (.aload_n 0, 1) := by decide +kernel
theorem d4_32 : decode prog_91_method_4_code 32 = .ok (.getfield 15, 3) := by decide +kernel
theorem d4_35 : decode prog_91_method_4_code 35 = .ok (.aload_n 0, 1) := by decide +kernel
theorem d4_36 : decode prog_91_method_4_code 36 = .ok (.getfield 19, 3) := by decide +kernel
theorem d4_39 : decode prog_91_method_4_code 39 = .ok (.iload_n 3, 1) := by decide +kernel
theorem d4_40 : decode prog_91_method_4_code 40 = .ok (.iaload, 1) := by decide +kernel
theorem d4_41 : decode prog_91_method_4_code 41 = .ok (.laload, 1) := by decide +kernel
theorem d4_42 : decode prog_91_method_4_code 42 = .ok (.lstore 4, 2) := by decide +kernel
theorem d4_44 : decode prog_91_method_4_code 44 = .ok (.lload 4, 2) := by decide +kernel
theorem d4_46 : decode prog_91_method_4_code 46 = .ok (.lconst 0, 1) := by decide +kernel
theorem d4_47 : decode prog_91_method_4_code 47 = .ok (.lcmp, 1) := by decide +kernel
theorem d4_48 : decode prog_91_method_4_code 48 = .ok (.ifCond .eq 36, 3) := by decide +kernel
theorem d4_51 : decode prog_91_method_4_code 51 = .ok (.aload_n 1, 1) := by decide +kernel
theorem d4_52 : decode prog_91_method_4_code 52 = .ok (.iload_n 2, 1) := by decide +kernel
theorem d4_53 : decode prog_91_method_4_code 53 = .ok (.iinc 2 1, 3) := by decide +kernel
theorem d4_56 : decode prog_91_method_4_code 56 = .ok (.aload_n 0, 1) := by decide +kernel
theorem d4_57 : decode prog_91_method_4_code 57 = .ok (.getfield 19, 3) := by decide +kernel
theorem d4_60 : decode prog_91_method_4_code 60 = .ok (.iload_n 3, 1) := by decide +kernel
theorem d4_61 : decode prog_91_method_4_code 61 = .ok (.iaload, 1) := by decide +kernel
theorem d4_62 : decode prog_91_method_4_code 62 = .ok (.bipush 64, 2) := by decide +kernel
theorem d4_64 : decode prog_91_method_4_code 64 = .ok (.imul, 1) := by decide +kernel
theorem d4_65 : decode prog_91_method_4_code 65 = .ok (.lload 4, 2) := by decide +kernel
theorem d4_67 : decode prog_91_method_4_code 67 = .ok (.invokestatic 42, 3) := by decide +kernel
theorem d4_70 : decode prog_91_method_4_code 70 = .ok (.iadd, 1) := by decide +kernel
theorem d4_71 : decode prog_91_method_4_code 71 = .ok (.iastore, 1) := by decide +kernel
theorem d4_72 : decode prog_91_method_4_code 72 = .ok (.lload 4, 2) := by decide +kernel
theorem d4_74 : decode prog_91_method_4_code 74 = .ok (.lload 4, 2) := by decide +kernel
theorem d4_76 : decode prog_91_method_4_code 76 = .ok (.lconst 1, 1) := by decide +kernel
theorem d4_77 : decode prog_91_method_4_code 77 = .ok (.lsub, 1) := by decide +kernel
theorem d4_78 : decode prog_91_method_4_code 78 = .ok (.land, 1) := by decide +kernel
theorem d4_79 : decode prog_91_method_4_code 79 = .ok (.lstore 4, 2) := by decide +kernel
theorem d4_81 : decode prog_91_method_4_code 81 = .ok (.goto (-37), 3) := by decide +kernel
theorem d4_84 : decode prog_91_method_4_code 84 = .ok (.iinc 3 1, 3) := by decide +kernel
theorem d4_87 : decode prog_91_method_4_code 87 = .ok (.goto (-64), 3) := by decide +kernel
theorem d4_90 : decode prog_91_method_4_code 90 = .ok (.aload_n 0, 1) := by decide +kernel
theorem d4_91 : decode prog_91_method_4_code 91 = .ok (.invokevirtual 35, 3) := by decide +kernel
theorem d4_94 : decode prog_91_method_4_code 94 = .ok (.aload_n 1, 1) := by decide +kernel
theorem d4_95 : decode prog_91_method_4_code 95 = .ok (.areturn, 1) := by decide +kernel
theorem d5_0 : decode jdk_65_method_3_code 0 = .ok (.aload_n 0, 1) := by decide +kernel
theorem d5_1 : decode jdk_65_method_3_code 1 = .ok (.arraylength, 1) := by decide +kernel
theorem d5_2 : decode jdk_65_method_3_code 2 = .ok (.iload_n 1, 1) := by decide +kernel
theorem d5_3 : decode jdk_65_method_3_code 3 = .ok (.iload_n 2, 1) := by decide +kernel
theorem d5_4 : decode jdk_65_method_3_code 4 = .ok (.invokestatic 13, 3) := by decide +kernel
theorem d5_7 : decode jdk_65_method_3_code 7 = .ok (.aload_n 0, 1) := by decide +kernel
theorem d5_8 : decode jdk_65_method_3_code 8 = .ok (.iconst 0, 1) := by decide +kernel
theorem d5_9 : decode jdk_65_method_3_code 9 = .ok (.iload_n 1, 1) := by decide +kernel
theorem d5_10 : decode jdk_65_method_3_code 10 = .ok (.iload_n 2, 1) := by decide +kernel
theorem d5_11 : decode jdk_65_method_3_code 11 = .ok (.invokestatic 7, 3) := by decide +kernel
theorem d5_14 : decode jdk_65_method_3_code 14 = .ok (.return_, 1) := by decide +kernel
theorem d6_0 : decode jdk_65_method_30_code 0 = .ok (.iload_n 1, 1) := by decide +kernel
theorem d6_1 : decode jdk_65_method_30_code 1 = .ok (.iload_n 2, 1) := by decide +kernel
theorem d6_2 : decode jdk_65_method_30_code 2 = .ok (.if_icmp .le 44, 3) := by decide +kernel
theorem d6_5 : decode jdk_65_method_30_code 5 = .ok (.new 43, 3) := by decide +kernel
theorem d6_8 : decode jdk_65_method_30_code 8 = .ok (.dup, 1) := by decide +kernel
theorem d6_9 : decode jdk_65_method_30_code 9 = .ok (.new 45, 3) := by decide +kernel
theorem d6_12 : decode jdk_65_method_30_code 12 = .ok (.dup, 1) := by decide +kernel
theorem d6_13 : decode jdk_65_method_30_code 13 = .ok (.invokespecial 47, 3) := by decide +kernel
theorem d6_16 : decode jdk_65_method_30_code 16 = .ok (.ldc 48, 2) := by decide +kernel
theorem d6_18 : decode jdk_65_method_30_code 18 = .ok (.invokevirtual 50, 3) := by decide +kernel
theorem d6_21 : decode jdk_65_method_30_code 21 = .ok (.iload_n 1, 1) := by decide +kernel
theorem d6_22 : decode jdk_65_method_30_code 22 = .ok (.invokevirtual 54, 3) := by decide +kernel
theorem d6_25 : decode jdk_65_method_30_code 25 = .ok (.ldc 57, 2) := by decide +kernel
theorem d6_27 : decode jdk_65_method_30_code 27 = .ok (.invokevirtual 50, 3) := by decide +kernel
theorem d6_30 : decode jdk_65_method_30_code 30 = .ok (.iload_n 2, 1) := by decide +kernel
theorem d6_31 : decode jdk_65_method_30_code 31 = .ok (.invokevirtual 54, 3) := by decide +kernel
theorem d6_34 : decode jdk_65_method_30_code 34 = .ok (.ldc 59, 2) := by decide +kernel
theorem d6_36 : decode jdk_65_method_30_code 36 = .ok (.invokevirtual 50, 3) := by decide +kernel
theorem d6_39 : decode jdk_65_method_30_code 39 = .ok (.invokevirtual 61, 3) := by decide +kernel
theorem d6_42 : decode jdk_65_method_30_code 42 = .ok (.invokespecial 65, 3) := by decide +kernel
theorem d6_45 : decode jdk_65_method_30_code 45 = .ok (.athrow, 1) := by decide +kernel
theorem d6_46 : decode jdk_65_method_30_code 46 = .ok (.iload_n 1, 1) := by decide +kernel
theorem d6_47 : decode jdk_65_method_30_code 47 = .ok (.ifCond .ge 12, 3) := by decide +kernel
theorem d6_50 : decode jdk_65_method_30_code 50 = .ok (.new 68, 3) := by decide +kernel
theorem d6_53 : decode jdk_65_method_30_code 53 = .ok (.dup, 1) := by decide +kernel
theorem d6_54 : decode jdk_65_method_30_code 54 = .ok (.iload_n 1, 1) := by decide +kernel
theorem d6_55 : decode jdk_65_method_30_code 55 = .ok (.invokespecial 70, 3) := by decide +kernel
theorem d6_58 : decode jdk_65_method_30_code 58 = .ok (.athrow, 1) := by decide +kernel
theorem d6_59 : decode jdk_65_method_30_code 59 = .ok (.iload_n 2, 1) := by decide +kernel
theorem d6_60 : decode jdk_65_method_30_code 60 = .ok (.iload_n 0, 1) := by decide +kernel
theorem d6_61 : decode jdk_65_method_30_code 61 = .ok (.if_icmp .le 12, 3) := by decide +kernel
theorem d6_64 : decode jdk_65_method_30_code 64 = .ok (.new 68, 3) := by decide +kernel
theorem d6_67 : decode jdk_65_method_30_code 67 = .ok (.dup, 1) := by decide +kernel
theorem d6_68 : decode jdk_65_method_30_code 68 = .ok (.iload_n 2, 1) := by decide +kernel
theorem d6_69 : decode jdk_65_method_30_code 69 = .ok (.invokespecial 70, 3) := by decide +kernel
theorem d6_72 : decode jdk_65_method_30_code 72 = .ok (.athrow, 1) := by decide +kernel
theorem d6_73 : decode jdk_65_method_30_code 73 = .ok (.return_, 1) := by decide +kernel
theorem d7_0 : decode jdk_2529_method_3_code 0 = .ok (.iload_n 3, 1) := by decide +kernel
theorem d7_1 : decode jdk_2529_method_3_code 1 = .ok (.iload_n 2, 1) := by decide +kernel
theorem d7_2 : decode jdk_2529_method_3_code 2 = .ok (.isub, 1) := by decide +kernel
theorem d7_3 : decode jdk_2529_method_3_code 3 = .ok (.istore 4, 2) := by decide +kernel
theorem d7_5 : decode jdk_2529_method_3_code 5 = .ok (.iload_n 1, 1) := by decide +kernel
theorem d7_6 : decode jdk_2529_method_3_code 6 = .ok (.iconst 1, 1) := by decide +kernel
theorem d7_7 : decode jdk_2529_method_3_code 7 = .ok (.if_icmp .le 61, 3) := by decide +kernel
theorem d7_10 : decode jdk_2529_method_3_code 10 = .ok (.iload 4, 2) := by decide +kernel
theorem d7_12 : decode jdk_2529_method_3_code 12 = .ok (.sipush 4096, 3) := by decide +kernel
theorem d7_15 : decode jdk_2529_method_3_code 15 = .ok (.if_icmp .le 53, 3) := by decide +kernel
theorem d7_18 : decode jdk_2529_method_3_code 18 = .ok (.iload_n 1, 1) := by decide +kernel
theorem d7_19 : decode jdk_2529_method_3_code 19 = .ok (.iload 4, 2) := by decide +kernel
theorem d7_21 : decode jdk_2529_method_3_code 21 = .ok (.bipush 12, 2) := by decide +kernel
theorem d7_23 : decode jdk_2529_method_3_code 23 = .ok (.ishr, 1) := by decide +kernel
theorem d7_24 : decode jdk_2529_method_3_code 24 = .ok (.invokestatic 13, 3) := by decide +kernel
theorem d7_27 : decode jdk_2529_method_3_code 27 = .ok (.istore 5, 2) := by decide +kernel
theorem d7_29 : decode jdk_2529_method_3_code 29 = .ok (.iload 5, 2) := by decide +kernel
theorem d7_31 : decode jdk_2529_method_3_code 31 = .ok (.ifCond .ne 7, 3) := by decide +kernel
theorem d7_34 : decode jdk_2529_method_3_code 34 = .ok (.aconst_null, 1) := by decide +kernel
theorem d7_35 : decode jdk_2529_method_3_code 35 = .ok (.goto 7, 3) := by decide +kernel
theorem d7_38 : decode jdk_2529_method_3_code 38 = .ok (.iload 4, 2) := by decide +kernel
theorem d7_40 : decode jdk_2529_method_3_code 40 = .ok (.newarray .int, 2) := by decide +kernel
theorem d7_42 : decode jdk_2529_method_3_code 42 = .ok (.astore 6, 2) := by decide +kernel
theorem d7_44 : decode jdk_2529_method_3_code 44 = .ok (.new 17, 3) := by decide +kernel
theorem d7_47 : decode jdk_2529_method_3_code 47 = .ok (.dup, 1) := by decide +kernel
theorem d7_48 : decode jdk_2529_method_3_code 48 = .ok (.aconst_null, 1) := by decide +kernel
theorem d7_49 : decode jdk_2529_method_3_code 49 = .ok (.aload_n 0, 1) := by decide +kernel
theorem d7_50 : decode jdk_2529_method_3_code 50 = .ok (.aload 6, 2) := by decide +kernel
theorem d7_52 : decode jdk_2529_method_3_code 52 = .ok (.iload_n 2, 1) := by decide +kernel
theorem d7_53 : decode jdk_2529_method_3_code 53 = .ok (.iload 4, 2) := by decide +kernel
theorem d7_55 : decode jdk_2529_method_3_code 55 = .ok (.iload_n 2, 1) := by decide +kernel
theorem d7_56 : decode jdk_2529_method_3_code 56 = .ok (.iload 5, 2) := by decide +kernel
theorem d7_58 : decode jdk_2529_method_3_code 58 = .ok (.invokespecial 19, 3) := by decide +kernel
theorem d7_61 : decode jdk_2529_method_3_code 61 = .ok (.invokevirtual 22, 3) := by decide +kernel
theorem d7_64 : decode jdk_2529_method_3_code 64 = .ok (.pop, 1) := by decide +kernel
theorem d7_65 : decode jdk_2529_method_3_code 65 = .ok (.goto 11, 3) := by decide +kernel
theorem d7_68 : decode jdk_2529_method_3_code 68 = .ok (.aconst_null, 1) := by decide +kernel
theorem d7_69 : decode jdk_2529_method_3_code 69 = .ok (.aload_n 0, 1) := by decide +kernel
theorem d7_70 : decode jdk_2529_method_3_code 70 = .ok (.iconst 0, 1) := by decide +kernel
theorem d7_71 : decode jdk_2529_method_3_code 71 = .ok (.iload_n 2, 1) := by decide +kernel
theorem d7_72 : decode jdk_2529_method_3_code 72 = .ok (.iload_n 3, 1) := by decide +kernel
theorem d7_73 : decode jdk_2529_method_3_code 73 = .ok (.invokestatic 26, 3) := by decide +kernel
theorem d7_76 : decode jdk_2529_method_3_code 76 = .ok (.return_, 1) := by decide +kernel
theorem d8_0 : decode jdk_2529_method_4_code 0 = .ok (.iload 4, 2) := by decide +kernel
theorem d8_2 : decode jdk_2529_method_4_code 2 = .ok (.iconst 1, 1) := by decide +kernel
theorem d8_3 : decode jdk_2529_method_4_code 3 = .ok (.isub, 1) := by decide +kernel
theorem d8_4 : decode jdk_2529_method_4_code 4 = .ok (.istore 5, 2) := by decide +kernel
theorem d8_6 : decode jdk_2529_method_4_code 6 = .ok (.iload 4, 2) := by decide +kernel
theorem d8_8 : decode jdk_2529_method_4_code 8 = .ok (.iload_n 3, 1) := by decide +kernel
theorem d8_9 : decode jdk_2529_method_4_code 9 = .ok (.isub, 1) := by decide +kernel
theorem d8_10 : decode jdk_2529_method_4_code 10 = .ok (.istore 6, 2) := by decide +kernel
theorem d8_12 : decode jdk_2529_method_4_code 12 = .ok (.iload 6, 2) := by decide +kernel
theorem d8_14 : decode jdk_2529_method_4_code 14 = .ok (.bipush 65, 2) := by decide +kernel
theorem d8_16 : decode jdk_2529_method_4_code 16 = .ok (.iload_n 2, 1) := by decide +kernel
theorem d8_17 : decode jdk_2529_method_4_code 17 = .ok (.iadd, 1) := by decide +kernel
theorem d8_18 : decode jdk_2529_method_4_code 18 = .ok (.if_icmp .ge 28, 3) := by decide +kernel
theorem d8_21 : decode jdk_2529_method_4_code 21 = .ok (.iload_n 2, 1) := by decide +kernel
theorem d8_22 : decode jdk_2529_method_4_code 22 = .ok (.iconst 1, 1) := by decide +kernel
theorem d8_23 : decode jdk_2529_method_4_code 23 = .ok (.iand, 1) := by decide +kernel
theorem d8_24 : decode jdk_2529_method_4_code 24 = .ok (.ifCond .le 22, 3) := by decide +kernel
theorem d8_27 : decode jdk_2529_method_4_code 27 = .ok (.aload_n 1, 1) := by decide +kernel
theorem d8_28 : decode jdk_2529_method_4_code 28 = .ok (.iload_n 3, 1) := by decide +kernel
theorem d8_29 : decode jdk_2529_method_4_code 29 = .ok (.iload 4, 2) := by decide +kernel
theorem d8_31 : decode jdk_2529_method_4_code 31 = .ok (.iconst 3, 1) := by decide +kernel
theorem d8_32 : decode jdk_2529_method_4_code 32 = .ok (.iload 6, 2) := by decide +kernel
theorem d8_34 : decode jdk_2529_method_4_code 34 = .ok (.iconst 5, 1) := by decide +kernel
theorem d8_35 : decode jdk_2529_method_4_code 35 = .ok (.ishr, 1) := by decide +kernel
theorem d8_36 : decode jdk_2529_method_4_code 36 = .ok (.iconst 3, 1) := by decide +kernel
theorem d8_37 : decode jdk_2529_method_4_code 37 = .ok (.ishl, 1) := by decide +kernel
theorem d8_38 : decode jdk_2529_method_4_code 38 = .ok (.imul, 1) := by decide +kernel
theorem d8_39 : decode jdk_2529_method_4_code 39 = .ok (.isub, 1) := by decide +kernel
theorem d8_40 : decode jdk_2529_method_4_code 40 = .ok (.iload 4, 2) := by decide +kernel
theorem d8_42 : decode jdk_2529_method_4_code 42 = .ok (.invokestatic 30, 3) := by decide +kernel
theorem d8_45 : decode jdk_2529_method_4_code 45 = .ok (.return_, 1) := by decide +kernel
theorem d8_46 : decode jdk_2529_method_4_code 46 = .ok (.iload 6, 2) := by decide +kernel
theorem d8_48 : decode jdk_2529_method_4_code 48 = .ok (.bipush 44, 2) := by decide +kernel
theorem d8_50 : decode jdk_2529_method_4_code 50 = .ok (.if_icmp .ge 11, 3) := by decide +kernel
theorem d8_53 : decode jdk_2529_method_4_code 53 = .ok (.aload_n 1, 1) := by decide +kernel
theorem d8_54 : decode jdk_2529_method_4_code 54 = .ok (.iload_n 3, 1) := by decide +kernel
theorem d8_55 : decode jdk_2529_method_4_code 55 = .ok (.iload 4, 2) := by decide +kernel
theorem d8_57 : decode jdk_2529_method_4_code 57 = .ok (.invokestatic 34, 3) := by decide +kernel
theorem d8_60 : decode jdk_2529_method_4_code 60 = .ok (.return_, 1) := by decide +kernel
theorem d9_0 : decode jdk_2529_method_6_code 0 = .ok (.iload_n 1, 1) := by decide +kernel
theorem d9_1 : decode jdk_2529_method_6_code 1 = .ok (.istore 4, 2) := by decide +kernel
theorem d9_3 : decode jdk_2529_method_6_code 3 = .ok (.iinc 4 1, 3) := by decide +kernel
theorem d9_6 : decode jdk_2529_method_6_code 6 = .ok (.iload 4, 2) := by decide +kernel
theorem d9_8 : decode jdk_2529_method_6_code 8 = .ok (.iload_n 2, 1) := by decide +kernel
theorem d9_9 : decode jdk_2529_method_6_code 9 = .ok (.if_icmp .ge 58, 3) := by decide +kernel
theorem d9_12 : decode jdk_2529_method_6_code 12 = .ok (.aload_n 0, 1) := by decide +kernel
theorem d9_13 : decode jdk_2529_method_6_code 13 = .ok (.iload 4, 2) := by decide +kernel
theorem d9_15 : decode jdk_2529_method_6_code 15 = .ok (.dup, 1) := by decide +kernel
theorem d9_16 : decode jdk_2529_method_6_code 16 = .ok (.istore_n 3, 1) := by decide +kernel
theorem d9_17 : decode jdk_2529_method_6_code 17 = .ok (.iaload, 1) := by decide +kernel
theorem d9_18 : decode jdk_2529_method_6_code 18 = .ok (.istore 5, 2) := by decide +kernel
theorem d9_20 : decode jdk_2529_method_6_code 20 = .ok (.iload 5, 2) := by decide +kernel
theorem d9_22 : decode jdk_2529_method_6_code 22 = .ok (.aload_n 0, 1) := by decide +kernel
theorem d9_23 : decode jdk_2529_method_6_code 23 = .ok (.iload_n 3, 1) := by decide +kernel
theorem d9_24 : decode jdk_2529_method_6_code 24 = .ok (.iconst 1, 1) := by decide +kernel
theorem d9_25 : decode jdk_2529_method_6_code 25 = .ok (.isub, 1) := by decide +kernel
theorem d9_26 : decode jdk_2529_method_6_code 26 = .ok (.iaload, 1) := by decide +kernel
theorem d9_27 : decode jdk_2529_method_6_code 27 = .ok (.if_icmp .ge 37, 3) := by decide +kernel
theorem d9_30 : decode jdk_2529_method_6_code 30 = .ok (.iinc 3 (-1), 3) := by decide +kernel
theorem d9_33 : decode jdk_2529_method_6_code 33 = .ok (.iload_n 3, 1) := by decide +kernel
theorem d9_34 : decode jdk_2529_method_6_code 34 = .ok (.iload_n 1, 1) := by decide +kernel
theorem d9_35 : decode jdk_2529_method_6_code 35 = .ok (.if_icmp .lt 22, 3) := by decide +kernel
theorem d9_38 : decode jdk_2529_method_6_code 38 = .ok (.iload 5, 2) := by decide +kernel
theorem d9_40 : decode jdk_2529_method_6_code 40 = .ok (.aload_n 0, 1) := by decide +kernel
theorem d9_41 : decode jdk_2529_method_6_code 41 = .ok (.iload_n 3, 1) := by decide +kernel
theorem d9_42 : decode jdk_2529_method_6_code 42 = .ok (.iaload, 1) := by decide +kernel
theorem d9_43 : decode jdk_2529_method_6_code 43 = .ok (.if_icmp .ge 14, 3) := by decide +kernel
theorem d9_46 : decode jdk_2529_method_6_code 46 = .ok (.aload_n 0, 1) := by decide +kernel
theorem d9_47 : decode jdk_2529_method_6_code 47 = .ok (.iload_n 3, 1) := by decide +kernel
theorem d9_48 : decode jdk_2529_method_6_code 48 = .ok (.iconst 1, 1) := by decide +kernel
theorem d9_49 : decode jdk_2529_method_6_code 49 = .ok (.iadd, 1) := by decide +kernel
theorem d9_50 : decode jdk_2529_method_6_code 50 = .ok (.aload_n 0, 1) := by decide +kernel
theorem d9_51 : decode jdk_2529_method_6_code 51 = .ok (.iload_n 3, 1) := by decide +kernel
theorem d9_52 : decode jdk_2529_method_6_code 52 = .ok (.iaload, 1) := by decide +kernel
theorem d9_53 : decode jdk_2529_method_6_code 53 = .ok (.iastore, 1) := by decide +kernel
theorem d9_54 : decode jdk_2529_method_6_code 54 = .ok (.goto (-24), 3) := by decide +kernel
theorem d9_57 : decode jdk_2529_method_6_code 57 = .ok (.aload_n 0, 1) := by decide +kernel
theorem d9_58 : decode jdk_2529_method_6_code 58 = .ok (.iload_n 3, 1) := by decide +kernel
theorem d9_59 : decode jdk_2529_method_6_code 59 = .ok (.iconst 1, 1) := by decide +kernel
theorem d9_60 : decode jdk_2529_method_6_code 60 = .ok (.iadd, 1) := by decide +kernel
theorem d9_61 : decode jdk_2529_method_6_code 61 = .ok (.iload 5, 2) := by decide +kernel
theorem d9_63 : decode jdk_2529_method_6_code 63 = .ok (.iastore, 1) := by decide +kernel
theorem d9_64 : decode jdk_2529_method_6_code 64 = .ok (.goto (-61), 3) := by decide +kernel
theorem d9_67 : decode jdk_2529_method_6_code 67 = .ok (.return_, 1) := by decide +kernel
theorem d12_0 : decode prog_91_method_5_code 0 = .ok (.iconst 0, 1) := by decide +kernel
theorem d12_1 : decode prog_91_method_5_code 1 = .ok (.istore_n 1, 1) := by decide +kernel
theorem d12_2 : decode prog_91_method_5_code 2 = .ok (.iload_n 1, 1) := by decide +kernel
theorem d12_3 : decode prog_91_method_5_code 3 = .ok (.aload_n 0, 1) := by decide +kernel
theorem d12_4 : decode prog_91_method_5_code 4 = .ok (.getfield 22, 3) := by decide +kernel
theorem d12_7 : decode prog_91_method_5_code 7 = .ok (.if_icmp .ge 21, 3) := by decide +kernel
theorem d12_10 : decode prog_91_method_5_code 10 = .ok (.aload_n 0, 1) := by decide +kernel
theorem d12_11 : decode prog_91_method_5_code 11 = .ok (.getfield 15, 3) := by decide +kernel
theorem d12_14 : decode prog_91_method_5_code 14 = .ok (.aload_n 0, 1) := by decide +kernel
theorem d12_15 : decode prog_91_method_5_code 15 = .ok (.getfield 19, 3) := by decide +kernel
theorem d12_18 : decode prog_91_method_5_code 18 = .ok (.iload_n 1, 1) := by decide +kernel
theorem d12_19 : decode prog_91_method_5_code 19 = .ok (.iaload, 1) := by decide +kernel
theorem d12_20 : decode prog_91_method_5_code 20 = .ok (.lconst 0, 1) := by decide +kernel
theorem d12_21 : decode prog_91_method_5_code 21 = .ok (.lastore, 1) := by decide +kernel
theorem d12_22 : decode prog_91_method_5_code 22 = .ok (.iinc 1 1, 3) := by decide +kernel
theorem d12_25 : decode prog_91_method_5_code 25 = .ok (.goto (-23), 3) := by decide +kernel
theorem d12_28 : decode prog_91_method_5_code 28 = .ok (.aload_n 0, 1) := by decide +kernel
theorem d12_29 : decode prog_91_method_5_code 29 = .ok (.iconst 0, 1) := by decide +kernel
theorem d12_30 : decode prog_91_method_5_code 30 = .ok (.putfield 26, 3) := by decide +kernel
theorem d12_33 : decode prog_91_method_5_code 33 = .ok (.aload_n 0, 1) := by decide +kernel
theorem d12_34 : decode prog_91_method_5_code 34 = .ok (.iconst 0, 1) := by decide +kernel
theorem d12_35 : decode prog_91_method_5_code 35 = .ok (.putfield 22, 3) := by decide +kernel
theorem d12_38 : decode prog_91_method_5_code 38 = .ok (.return_, 1) := by decide +kernel
theorem d13_0 : decode jdk_29_method_69_code 0 = .ok (.iload_n 0, 1) := by decide +kernel
theorem d13_1 : decode jdk_29_method_69_code 1 = .ok (.iload_n 1, 1) := by decide +kernel
theorem d13_2 : decode jdk_29_method_69_code 2 = .ok (.if_icmp .gt 7, 3) := by decide +kernel
theorem d13_5 : decode jdk_29_method_69_code 5 = .ok (.iload_n 0, 1) := by decide +kernel
theorem d13_6 : decode jdk_29_method_69_code 6 = .ok (.goto 4, 3) := by decide +kernel
theorem d13_9 : decode jdk_29_method_69_code 9 = .ok (.iload_n 1, 1) := by decide +kernel
theorem d13_10 : decode jdk_29_method_69_code 10 = .ok (.ireturn, 1) := by decide +kernel
theorem d14_0 : decode jdk_29_method_65_code 0 = .ok (.iload_n 0, 1) := by decide +kernel
theorem d14_1 : decode jdk_29_method_65_code 1 = .ok (.iload_n 1, 1) := by decide +kernel
theorem d14_2 : decode jdk_29_method_65_code 2 = .ok (.if_icmp .lt 7, 3) := by decide +kernel
theorem d14_5 : decode jdk_29_method_65_code 5 = .ok (.iload_n 0, 1) := by decide +kernel
theorem d14_6 : decode jdk_29_method_65_code 6 = .ok (.goto 4, 3) := by decide +kernel
theorem d14_9 : decode jdk_29_method_65_code 9 = .ok (.iload_n 1, 1) := by decide +kernel
theorem d14_10 : decode jdk_29_method_65_code 10 = .ok (.ireturn, 1) := by decide +kernel
theorem d15_0 : decode method_3_code 0 = .ok (.aload_n 0, 1) := by decide +kernel
theorem d15_1 : decode method_3_code 1 = .ok (.arraylength, 1) := by decide +kernel
theorem d15_2 : decode method_3_code 2 = .ok (.iload_n 2, 1) := by decide +kernel
theorem d15_3 : decode method_3_code 3 = .ok (.if_icmp .eq 5, 3) := by decide +kernel
theorem d15_6 : decode method_3_code 6 = .ok (.iconst 0, 1) := by decide +kernel
theorem d15_7 : decode method_3_code 7 = .ok (.ireturn, 1) := by decide +kernel
theorem d15_8 : decode method_3_code 8 = .ok (.iload_n 2, 1) := by decide +kernel
theorem d15_9 : decode method_3_code 9 = .ok (.iconst 1, 1) := by decide +kernel
theorem d15_10 : decode method_3_code 10 = .ok (.if_icmp .lt 14, 3) := by decide +kernel
theorem d15_13 : decode method_3_code 13 = .ok (.aload_n 0, 1) := by decide +kernel
theorem d15_14 : decode method_3_code 14 = .ok (.iconst 0, 1) := by decide +kernel
theorem d15_15 : decode method_3_code 15 = .ok (.iaload, 1) := by decide +kernel
theorem d15_16 : decode method_3_code 16 = .ok (.aload_n 1, 1) := by decide +kernel
theorem d15_17 : decode method_3_code 17 = .ok (.iconst 0, 1) := by decide +kernel
theorem d15_18 : decode method_3_code 18 = .ok (.iaload, 1) := by decide +kernel
theorem d15_19 : decode method_3_code 19 = .ok (.if_icmp .eq 5, 3) := by decide +kernel
theorem d15_22 : decode method_3_code 22 = .ok (.iconst 0, 1) := by decide +kernel
theorem d15_23 : decode method_3_code 23 = .ok (.ireturn, 1) := by decide +kernel
theorem d15_24 : decode method_3_code 24 = .ok (.iload_n 2, 1) := by decide +kernel
theorem d15_25 : decode method_3_code 25 = .ok (.iconst 2, 1) := by decide +kernel
theorem d15_26 : decode method_3_code 26 = .ok (.if_icmp .lt 14, 3) := by decide +kernel
theorem d15_29 : decode method_3_code 29 = .ok (.aload_n 0, 1) := by decide +kernel
theorem d15_30 : decode method_3_code 30 = .ok (.iconst 1, 1) := by decide +kernel
theorem d15_31 : decode method_3_code 31 = .ok (.iaload, 1) := by decide +kernel
theorem d15_32 : decode method_3_code 32 = .ok (.aload_n 1, 1) := by decide +kernel
theorem d15_33 : decode method_3_code 33 = .ok (.iconst 1, 1) := by decide +kernel
theorem d15_34 : decode method_3_code 34 = .ok (.iaload, 1) := by decide +kernel
theorem d15_35 : decode method_3_code 35 = .ok (.if_icmp .eq 5, 3) := by decide +kernel
theorem d15_38 : decode method_3_code 38 = .ok (.iconst 0, 1) := by decide +kernel
theorem d15_39 : decode method_3_code 39 = .ok (.ireturn, 1) := by decide +kernel
theorem d15_40 : decode method_3_code 40 = .ok (.iload_n 2, 1) := by decide +kernel
theorem d15_41 : decode method_3_code 41 = .ok (.iconst 3, 1) := by decide +kernel
theorem d15_42 : decode method_3_code 42 = .ok (.if_icmp .lt 14, 3) := by decide +kernel
theorem d15_45 : decode method_3_code 45 = .ok (.aload_n 0, 1) := by decide +kernel
theorem d15_46 : decode method_3_code 46 = .ok (.iconst 2, 1) := by decide +kernel
theorem d15_47 : decode method_3_code 47 = .ok (.iaload, 1) := by decide +kernel
theorem d15_48 : decode method_3_code 48 = .ok (.aload_n 1, 1) := by decide +kernel
theorem d15_49 : decode method_3_code 49 = .ok (.iconst 2, 1) := by decide +kernel
theorem d15_50 : decode method_3_code 50 = .ok (.iaload, 1) := by decide +kernel
theorem d15_51 : decode method_3_code 51 = .ok (.if_icmp .eq 5, 3) := by decide +kernel
theorem d15_54 : decode method_3_code 54 = .ok (.iconst 0, 1) := by decide +kernel
theorem d15_55 : decode method_3_code 55 = .ok (.ireturn, 1) := by decide +kernel
theorem d15_56 : decode method_3_code 56 = .ok (.iconst 1, 1) := by decide +kernel
theorem d15_57 : decode method_3_code 57 = .ok (.ireturn, 1) := by decide +kernel
theorem d16_0 : decode prog_91_method_3_code 0 = .ok (.aload_n 0, 1) := by decide +kernel
theorem d16_1 : decode prog_91_method_3_code 1 = .ok (.getfield 7, 3) := by decide +kernel
theorem d16_4 : decode prog_91_method_3_code 4 = .ok (.aload_n 0, 1) := by decide +kernel
theorem d16_5 : decode prog_91_method_3_code 5 = .ok (.getfield 26, 3) := by decide +kernel
theorem d16_8 : decode prog_91_method_3_code 8 = .ok (.invokestatic 29, 3) := by decide +kernel
theorem d16_11 : decode prog_91_method_3_code 11 = .ok (.astore_n 1, 1) := by decide +kernel
theorem d16_12 : decode prog_91_method_3_code 12 = .ok (.aload_n 0, 1) := by decide +kernel
theorem d16_13 : decode prog_91_method_3_code 13 = .ok (.invokevirtual 35, 3) := by decide +kernel
theorem d16_16 : decode prog_91_method_3_code 16 = .ok (.aload_n 1, 1) := by decide +kernel
theorem d16_17 : decode prog_91_method_3_code 17 = .ok (.areturn, 1) := by decide +kernel
theorem d17_0 : decode jdk_65_method_123_code 0 = .ok (.iload_n 1, 1) := by decide +kernel
theorem d17_1 : decode jdk_65_method_123_code 1 = .ok (.aload_n 0, 1) := by decide +kernel
theorem d17_2 : decode jdk_65_method_123_code 2 = .ok (.arraylength, 1) := by decide +kernel
theorem d17_3 : decode jdk_65_method_123_code 3 = .ok (.if_icmp .ne 11, 3) := by decide +kernel
theorem d17_6 : decode jdk_65_method_123_code 6 = .ok (.aload_n 0, 1) := by decide +kernel
theorem d17_7 : decode jdk_65_method_123_code 7 = .ok (.invokevirtual 316, 3) := by decide +kernel
theorem d17_10 : decode jdk_65_method_123_code 10 = .ok (.checkcast 317, 3) := by decide +kernel
theorem d17_13 : decode jdk_65_method_123_code 13 = .ok (.areturn, 1) := by decide +kernel
theorem d17_14 : decode jdk_65_method_123_code 14 = .ok (.iload_n 1, 1) := by decide +kernel
theorem d17_15 : decode jdk_65_method_123_code 15 = .ok (.newarray .int, 2) := by decide +kernel
theorem d17_17 : decode jdk_65_method_123_code 17 = .ok (.astore_n 2, 1) := by decide +kernel
theorem d17_18 : decode jdk_65_method_123_code 18 = .ok (.aload_n 0, 1) := by decide +kernel
theorem d17_19 : decode jdk_65_method_123_code 19 = .ok (.iconst 0, 1) := by decide +kernel
theorem d17_20 : decode jdk_65_method_123_code 20 = .ok (.aload_n 2, 1) := by decide +kernel
theorem d17_21 : decode jdk_65_method_123_code 21 = .ok (.iconst 0, 1) := by decide +kernel
theorem d17_22 : decode jdk_65_method_123_code 22 = .ok (.aload_n 0, 1) := by decide +kernel
theorem d17_23 : decode jdk_65_method_123_code 23 = .ok (.arraylength, 1) := by decide +kernel
theorem d17_24 : decode jdk_65_method_123_code 24 = .ok (.iload_n 1, 1) := by decide +kernel
theorem d17_25 : decode jdk_65_method_123_code 25 = .ok (.invokestatic 304, 3) := by decide +kernel
theorem d17_28 : decode jdk_65_method_123_code 28 = .ok (.invokestatic 150, 3) := by decide +kernel
theorem d17_31 : decode jdk_65_method_123_code 31 = .ok (.aload_n 2, 1) := by decide +kernel
theorem d17_32 : decode jdk_65_method_123_code 32 = .ok (.areturn, 1) := by decide +kernel
theorem pd_0 : parseMethodDescriptor "()V" = some ⟨[], none⟩ := by decide +kernel
theorem pd_1 : parseMethodDescriptor "()[I" = some ⟨[], some (.array .int)⟩ := by decide +kernel
theorem pd_3 : parseMethodDescriptor "(I)V" = some ⟨[.int], none⟩ := by decide +kernel
theorem pd_4 : parseMethodDescriptor "(II)I" = some ⟨[.int, .int], some .int⟩ := by decide +kernel
theorem pd_5 : parseMethodDescriptor "(III)V" = some ⟨[.int, .int, .int], none⟩ := by decide +kernel
theorem pd_6 : parseMethodDescriptor "(IIIII)Z" = some ⟨[.int, .int, .int, .int, .int], some .boolean⟩ := by decide +kernel
theorem pd_8 : parseMethodDescriptor "(Ljava/util/DualPivotQuicksort$Sorter;[IIII)V" = some ⟨[(.object "java/util/DualPivotQuicksort$Sorter"), (.array .int), .int, .int, .int], none⟩ := by decide +kernel
theorem pd_9 : parseMethodDescriptor "([II)[I" = some ⟨[(.array .int), .int], some (.array .int)⟩ := by decide +kernel
theorem pd_10 : parseMethodDescriptor "([III)V" = some ⟨[(.array .int), .int, .int], none⟩ := by decide +kernel
theorem pd_11 : parseMethodDescriptor "([IIII)V" = some ⟨[(.array .int), .int, .int, .int], none⟩ := by decide +kernel
theorem pd_12 : parseMethodDescriptor "([I[II)Z" = some ⟨[(.array .int), (.array .int), .int], some .boolean⟩ := by decide +kernel
theorem pn_0 : plainFor x = true := plainFor_of_name (by first | (simp [plainName, overriddenIn]; done) | decide +kernel)
theorem ef_0 (m : MethodId) (x0 : Int32) (x1 : Int32) (x2 : Int32) (x3 : Int32) (x4 : Int32) : entryFrame m #[(.int x0), (.int x1), (.int x2), (.int x3), (.int x4)] maxLocals = mkF m 0 #[.val (.int x0), .val (.int x1), .val (.int x2), .val (.int x3), .val (.int x4), .unset, .unset, .unset, .unset, .unset, .unset, .unset, .unset, .unset, .unset, .unset, .unset, .unset, .unset, .unset] [] := by first | (simp [entryFrame, mkF, argsToLocals, Value.category, maxLocals]; done) | rfl
theorem pn_1 : plainFor (⟨"com/example/shardloom/shardloom/VertexSet", "<init>", "(I)V"⟩ : MethodName) = true := plainFor_of_name (by first | (simp [plainName, overriddenIn]; done) | decide +kernel)
theorem ef_1 (m : MethodId) (x0 : Addr) (x1 : Int32) : entryFrame m #[(.ref x0), (.int x1)] 2 = mkF m 0 #[.val (.ref x0), .val (.int x1)] [] := by first | (simp [entryFrame, mkF, argsToLocals, Value.category]; done) | rfl
theorem pn_3 : plainFor (⟨"com/example/shardloom/shardloom/VertexSet", "add", "(I)V"⟩ : MethodName) = true := plainFor_of_name (by first | (simp [plainName, overriddenIn]; done) | decide +kernel)
theorem ef_3 (m : MethodId) (x0 : Addr) (x1 : Int32) : entryFrame m #[(.ref x0), (.int x1)] 5 = mkF m 0 #[.val (.ref x0), .val (.int x1), .unset, .unset, .unset] [] := by first | (simp [entryFrame, mkF, argsToLocals, Value.category]; done) | rfl
theorem pn_4 : plainFor (⟨"com/example/shardloom/shardloom/VertexSet", "takeAscending", "()[I"⟩ : MethodName) = true := plainFor_of_name (by first | (simp [plainName, overriddenIn]; done) | decide +kernel)
theorem ef_4 (m : MethodId) (x0 : Addr) : entryFrame m #[(.ref x0)] 6 = mkF m 0 #[.val (.ref x0), .unset, .unset, .unset, .unset, .unset] [] := by first | (simp [entryFrame, mkF, argsToLocals, Value.category]; done) | rfl
theorem pn_5 : plainFor (⟨"java/util/Arrays", "sort", "([III)V"⟩ : MethodName) = true := plainFor_of_name (by first | (simp [plainName, overriddenIn]; done) | decide +kernel)
theorem ef_5 (m : MethodId) (x0 : Addr) (x1 : Int32) (x2 : Int32) : entryFrame m #[(.ref x0), (.int x1), (.int x2)] 3 = mkF m 0 #[.val (.ref x0), .val (.int x1), .val (.int x2)] [] := by first | (simp [entryFrame, mkF, argsToLocals, Value.category]; done) | rfl
theorem pn_6 : plainFor (⟨"java/util/Arrays", "rangeCheck", "(III)V"⟩ : MethodName) = true := plainFor_of_name (by first | (simp [plainName, overriddenIn]; done) | decide +kernel)
theorem ef_6 (m : MethodId) (x0 : Int32) (x1 : Int32) (x2 : Int32) : entryFrame m #[(.int x0), (.int x1), (.int x2)] 3 = mkF m 0 #[.val (.int x0), .val (.int x1), .val (.int x2)] [] := by first | (simp [entryFrame, mkF, argsToLocals, Value.category]; done) | rfl
theorem pn_7 : plainFor (⟨"java/util/DualPivotQuicksort", "sort", "([IIII)V"⟩ : MethodName) = true := plainFor_of_name (by first | (simp [plainName, overriddenIn]; done) | decide +kernel)
theorem ef_7 (m : MethodId) (x0 : Addr) (x1 : Int32) (x2 : Int32) (x3 : Int32) : entryFrame m #[(.ref x0), (.int x1), (.int x2), (.int x3)] 7 = mkF m 0 #[.val (.ref x0), .val (.int x1), .val (.int x2), .val (.int x3), .unset, .unset, .unset] [] := by first | (simp [entryFrame, mkF, argsToLocals, Value.category]; done) | rfl
theorem pn_8 : plainFor (⟨"java/util/DualPivotQuicksort", "sort", "(Ljava/util/DualPivotQuicksort$Sorter;[IIII)V"⟩ : MethodName) = true := plainFor_of_name (by first | (simp [plainName, overriddenIn]; done) | decide +kernel)
theorem ef_8 (m : MethodId) (x1 : Addr) (x2 : Int32) (x3 : Int32) (x4 : Int32) : entryFrame m #[.null, (.ref x1), (.int x2), (.int x3), (.int x4)] 21 = mkF m 0 #[.val .null, .val (.ref x1), .val (.int x2), .val (.int x3), .val (.int x4), .unset, .unset, .unset, .unset, .unset, .unset, .unset, .unset, .unset, .unset, .unset, .unset, .unset, .unset, .unset, .unset] [] := by first | (simp [entryFrame, mkF, argsToLocals, Value.category]; done) | rfl
theorem pn_9 : plainFor (⟨"java/util/DualPivotQuicksort", "insertionSort", "([III)V"⟩ : MethodName) = true := plainFor_of_name (by first | (simp [plainName, overriddenIn]; done) | decide +kernel)
theorem ef_9 (m : MethodId) (x0 : Addr) (x1 : Int32) (x2 : Int32) : entryFrame m #[(.ref x0), (.int x1), (.int x2)] 6 = mkF m 0 #[.val (.ref x0), .val (.int x1), .val (.int x2), .unset, .unset, .unset] [] := by first | (simp [entryFrame, mkF, argsToLocals, Value.category]; done) | rfl
theorem pn_12 : plainFor (⟨"com/example/shardloom/shardloom/VertexSet", "clear", "()V"⟩ : MethodName) = true := plainFor_of_name (by first | (simp [plainName, overriddenIn]; done) | decide +kernel)
theorem ef_12 (m : MethodId) (x0 : Addr) : entryFrame m #[(.ref x0)] 2 = mkF m 0 #[.val (.ref x0), .unset] [] := by first | (simp [entryFrame, mkF, argsToLocals, Value.category]; done) | rfl
theorem pn_13 : plainFor (⟨"java/lang/Math", "min", "(II)I"⟩ : MethodName) = true := Jvm.Free.JP.mathPlain rfl (by decide +kernel)
theorem ef_13 (m : MethodId) (x0 : Int32) (x1 : Int32) : entryFrame m #[(.int x0), (.int x1)] 2 = mkF m 0 #[.val (.int x0), .val (.int x1)] [] := by first | (simp [entryFrame, mkF, argsToLocals, Value.category]; done) | rfl
theorem pn_14 : plainFor (⟨"java/lang/Math", "max", "(II)I"⟩ : MethodName) = true := Jvm.Free.JP.mathPlain rfl (by decide +kernel)
theorem ef_14 (m : MethodId) (x0 : Int32) (x1 : Int32) : entryFrame m #[(.int x0), (.int x1)] 2 = mkF m 0 #[.val (.int x0), .val (.int x1)] [] := by first | (simp [entryFrame, mkF, argsToLocals, Value.category]; done) | rfl
theorem pn_15 : plainFor (⟨"com/example/shardloom/shardloom/VertexSetAddPinLaw", "same", "([I[II)Z"⟩ : MethodName) = true := plainFor_of_name (by first | (simp [plainName, overriddenIn]; done) | decide +kernel)
theorem ef_15 (m : MethodId) (x0 : Addr) (x1 : Addr) (x2 : Int32) : entryFrame m #[(.ref x0), (.ref x1), (.int x2)] 3 = mkF m 0 #[.val (.ref x0), .val (.ref x1), .val (.int x2)] [] := by first | (simp [entryFrame, mkF, argsToLocals, Value.category]; done) | rfl
theorem pn_16 : plainFor (⟨"com/example/shardloom/shardloom/VertexSet", "takeAll", "()[I"⟩ : MethodName) = true := plainFor_of_name (by first | (simp [plainName, overriddenIn]; done) | decide +kernel)
theorem ef_16 (m : MethodId) (x0 : Addr) : entryFrame m #[(.ref x0)] 2 = mkF m 0 #[.val (.ref x0), .unset] [] := by first | (simp [entryFrame, mkF, argsToLocals, Value.category]; done) | rfl
theorem pn_17 : plainFor (⟨"java/util/Arrays", "copyOf", "([II)[I"⟩ : MethodName) = true := plainFor_of_name (by first | (simp [plainName, overriddenIn]; done) | decide +kernel)
theorem ef_17 (m : MethodId) (x0 : Addr) (x1 : Int32) : entryFrame m #[(.ref x0), (.int x1)] 3 = mkF m 0 #[.val (.ref x0), .val (.int x1), .unset] [] := by first | (simp [entryFrame, mkF, argsToLocals, Value.category]; done) | rfl
theorem own_all8 {P : Int8 → Prop} (h : ∀ n : Fin 256, P (.ofBitVec (.ofFin n))) (b : Int8) : P b := by
  have := h b.toBitVec.toFin
  simpa using this
theorem own_fin (x : Int32) (K : Nat) (h0 : 0 ≤ x.toInt) (h1 : x.toInt < K) : ∃ n : Nat, n < K ∧ x = Int32.ofInt (n : Int) :=
  ⟨x.toInt.toNat, by omega, by rw [Int.toNat_of_nonneg h0, Int32.ofInt_toInt]⟩
theorem own_lushr_nat (x : Int64) (q : Int32) (k : Nat) (hk : q.toBitVec.toNat % 64 = k) : (own_lushr x q).toBitVec.toNat = x.toBitVec.toNat / 2 ^ k := by
  show (x.toBitVec >>> ((q &&& 0x3f).toInt64.toBitVec % 64)).toNat = _
  rw [BitVec.ushiftRight_eq', BitVec.toNat_ushiftRight, Nat.shiftRight_eq_div_pow, BitVec.toNat_umod, (sm64 q k hk).1, BitVec.toNat_ofNat]
  congr 2
  have := (sm64 q k hk).2
  show k % 2 ^ 64 % 64 = k
  omega
theorem own_l0 (x : Int64) : x = 0 ↔ x.toBitVec.toNat = 0 := ⟨fun h => by subst h; rfl, fun h => Int64.toBitVec_inj.mp (BitVec.eq_of_toNat_eq h)⟩
theorem own_shsh (x : Int64) (a b c : Int32) (i j : Nat) (ha : a.toBitVec.toNat % 64 = i) (hb : b.toBitVec.toNat % 64 = j) (hc : c.toBitVec.toNat % 64 = i + j) : own_lushr (own_lushr x a) b = own_lushr x c := by
  apply Int64.toBitVec_inj.mp
  apply BitVec.eq_of_toNat_eq
  rw [own_lushr_nat _ b j hb, own_lushr_nat x a i ha, own_lushr_nat x c _ hc, Nat.div_div_eq_div_mul, Nat.pow_add]
theorem own_shz (x : Int64) (a b : Int32) (i j : Nat) (ha : a.toBitVec.toNat % 64 = i) (hb : b.toBitVec.toNat % 64 = j) (h : 64 ≤ i + j) : own_lushr (own_lushr x a) b = 0 := by
  rw [own_l0, own_lushr_nat _ b j hb, own_lushr_nat x a i ha, Nat.div_div_eq_div_mul, ← Nat.pow_add]
  exact Nat.div_eq_of_lt (Nat.lt_of_lt_of_le x.toBitVec.isLt (Nat.pow_le_pow_right (by decide) h))
theorem own_true {P : Prop} [Decidable P] (h : P) : ((if P then (1 : Int32) else (0 : Int32)) &&& 1) = 1 := by rw [if_pos h]; rfl
theorem d11_0 : decode jdk_33_method_48_code 0 = .ok (.iload_n 0, 1) := by decide +kernel
theorem d11_1 : decode jdk_33_method_48_code 1 = .ok (.iconst (-1), 1) := by decide +kernel
theorem d11_2 : decode jdk_33_method_48_code 2 = .ok (.ixor, 1) := by decide +kernel
theorem d11_3 : decode jdk_33_method_48_code 3 = .ok (.iload_n 0, 1) := by decide +kernel
theorem d11_4 : decode jdk_33_method_48_code 4 = .ok (.iconst 1, 1) := by decide +kernel
theorem d11_5 : decode jdk_33_method_48_code 5 = .ok (.isub, 1) := by decide +kernel
theorem d11_6 : decode jdk_33_method_48_code 6 = .ok (.iand, 1) := by decide +kernel
theorem d11_7 : decode jdk_33_method_48_code 7 = .ok (.istore_n 0, 1) := by decide +kernel
theorem d11_8 : decode jdk_33_method_48_code 8 = .ok (.iload_n 0, 1) := by decide +kernel
theorem d11_9 : decode jdk_33_method_48_code 9 = .ok (.ifCond .gt 8, 3) := by decide +kernel
theorem d11_12 : decode jdk_33_method_48_code 12 = .ok (.iload_n 0, 1) := by decide +kernel
theorem d11_13 : decode jdk_33_method_48_code 13 = .ok (.bipush 32, 2) := by decide +kernel
theorem d11_15 : decode jdk_33_method_48_code 15 = .ok (.iand, 1) := by decide +kernel
theorem d11_16 : decode jdk_33_method_48_code 16 = .ok (.ireturn, 1) := by decide +kernel
theorem d11_17 : decode jdk_33_method_48_code 17 = .ok (.iconst 1, 1) := by decide +kernel
theorem d11_18 : decode jdk_33_method_48_code 18 = .ok (.istore_n 1, 1) := by decide +kernel
theorem d11_19 : decode jdk_33_method_48_code 19 = .ok (.iload_n 0, 1) := by decide +kernel
theorem d11_20 : decode jdk_33_method_48_code 20 = .ok (.ldc_w 264, 3) := by decide +kernel
theorem d11_23 : decode jdk_33_method_48_code 23 = .ok (.if_icmp .le 11, 3) := by decide +kernel
theorem d11_26 : decode jdk_33_method_48_code 26 = .ok (.iinc 1 16, 3) := by decide +kernel
theorem d11_29 : decode jdk_33_method_48_code 29 = .ok (.iload_n 0, 1) := by decide +kernel
theorem d11_30 : decode jdk_33_method_48_code 30 = .ok (.bipush 16, 2) := by decide +kernel
theorem d11_32 : decode jdk_33_method_48_code 32 = .ok (.iushr, 1) := by decide +kernel
theorem d11_33 : decode jdk_33_method_48_code 33 = .ok (.istore_n 0, 1) := by decide +kernel
theorem d11_34 : decode jdk_33_method_48_code 34 = .ok (.iload_n 0, 1) := by decide +kernel
theorem d11_35 : decode jdk_33_method_48_code 35 = .ok (.sipush 256, 3) := by decide +kernel
theorem d11_38 : decode jdk_33_method_48_code 38 = .ok (.if_icmp .le 11, 3) := by decide +kernel
theorem d11_41 : decode jdk_33_method_48_code 41 = .ok (.iinc 1 8, 3) := by decide +kernel
theorem d11_44 : decode jdk_33_method_48_code 44 = .ok (.iload_n 0, 1) := by decide +kernel
theorem d11_45 : decode jdk_33_method_48_code 45 = .ok (.bipush 8, 2) := by decide +kernel
theorem d11_47 : decode jdk_33_method_48_code 47 = .ok (.iushr, 1) := by decide +kernel
theorem d11_48 : decode jdk_33_method_48_code 48 = .ok (.istore_n 0, 1) := by decide +kernel
theorem d11_49 : decode jdk_33_method_48_code 49 = .ok (.iload_n 0, 1) := by decide +kernel
theorem d11_50 : decode jdk_33_method_48_code 50 = .ok (.bipush 16, 2) := by decide +kernel
theorem d11_52 : decode jdk_33_method_48_code 52 = .ok (.if_icmp .le 10, 3) := by decide +kernel
theorem d11_55 : decode jdk_33_method_48_code 55 = .ok (.iinc 1 4, 3) := by decide +kernel
theorem d11_58 : decode jdk_33_method_48_code 58 = .ok (.iload_n 0, 1) := by decide +kernel
theorem d11_59 : decode jdk_33_method_48_code 59 = .ok (.iconst 4, 1) := by decide +kernel
theorem d11_60 : decode jdk_33_method_48_code 60 = .ok (.iushr, 1) := by decide +kernel
theorem d11_61 : decode jdk_33_method_48_code 61 = .ok (.istore_n 0, 1) := by decide +kernel
theorem d11_62 : decode jdk_33_method_48_code 62 = .ok (.iload_n 0, 1) := by decide +kernel
theorem d11_63 : decode jdk_33_method_48_code 63 = .ok (.iconst 4, 1) := by decide +kernel
theorem d11_64 : decode jdk_33_method_48_code 64 = .ok (.if_icmp .le 10, 3) := by decide +kernel
theorem d11_67 : decode jdk_33_method_48_code 67 = .ok (.iinc 1 2, 3) := by decide +kernel
theorem d11_70 : decode jdk_33_method_48_code 70 = .ok (.iload_n 0, 1) := by decide +kernel
theorem d11_71 : decode jdk_33_method_48_code 71 = .ok (.iconst 2, 1) := by decide +kernel
theorem d11_72 : decode jdk_33_method_48_code 72 = .ok (.iushr, 1) := by decide +kernel
theorem d11_73 : decode jdk_33_method_48_code 73 = .ok (.istore_n 0, 1) := by decide +kernel
theorem d11_74 : decode jdk_33_method_48_code 74 = .ok (.iload_n 1, 1) := by decide +kernel
theorem d11_75 : decode jdk_33_method_48_code 75 = .ok (.iload_n 0, 1) := by decide +kernel
theorem d11_76 : decode jdk_33_method_48_code 76 = .ok (.iconst 1, 1) := by decide +kernel
theorem d11_77 : decode jdk_33_method_48_code 77 = .ok (.iushr, 1) := by decide +kernel
theorem d11_78 : decode jdk_33_method_48_code 78 = .ok (.iadd, 1) := by decide +kernel
theorem d11_79 : decode jdk_33_method_48_code 79 = .ok (.ireturn, 1) := by decide +kernel
theorem d10_0 : decode jdk_35_method_49_code 0 = .ok (.lload_n 0, 1) := by decide +kernel
theorem d10_1 : decode jdk_35_method_49_code 1 = .ok (.l2i, 1) := by decide +kernel
theorem d10_2 : decode jdk_35_method_49_code 2 = .ok (.istore_n 2, 1) := by decide +kernel
theorem d10_3 : decode jdk_35_method_49_code 3 = .ok (.iload_n 2, 1) := by decide +kernel
theorem d10_4 : decode jdk_35_method_49_code 4 = .ok (.ifCond .ne 17, 3) := by decide +kernel
theorem d10_7 : decode jdk_35_method_49_code 7 = .ok (.bipush 32, 2) := by decide +kernel
theorem d10_9 : decode jdk_35_method_49_code 9 = .ok (.lload_n 0, 1) := by decide +kernel
theorem d10_10 : decode jdk_35_method_49_code 10 = .ok (.bipush 32, 2) := by decide +kernel
theorem d10_12 : decode jdk_35_method_49_code 12 = .ok (.lushr, 1) := by decide +kernel
theorem d10_13 : decode jdk_35_method_49_code 13 = .ok (.l2i, 1) := by decide +kernel
theorem d10_14 : decode jdk_35_method_49_code 14 = .ok (.invokestatic 311, 3) := by decide +kernel
theorem d10_17 : decode jdk_35_method_49_code 17 = .ok (.iadd, 1) := by decide +kernel
theorem d10_18 : decode jdk_35_method_49_code 18 = .ok (.goto 7, 3) := by decide +kernel
theorem d10_21 : decode jdk_35_method_49_code 21 = .ok (.iload_n 2, 1) := by decide +kernel
theorem d10_22 : decode jdk_35_method_49_code 22 = .ok (.invokestatic 311, 3) := by decide +kernel
theorem d10_25 : decode jdk_35_method_49_code 25 = .ok (.ireturn, 1) := by decide +kernel
theorem pd_2 : parseMethodDescriptor "(I)I" = some ⟨[.int], some .int⟩ := by decide +kernel
theorem pd_7 : parseMethodDescriptor "(J)I" = some ⟨[.long], some .int⟩ := by decide +kernel
theorem pn_11 : plainFor (⟨"java/lang/Integer", "numberOfTrailingZeros", "(I)I"⟩ : MethodName) = true := plainFor_of_name (by first | (simp [plainName, overriddenIn]; done) | decide +kernel)
theorem ef_11 (m : MethodId) (x0 : Int32) : entryFrame m #[(.int x0)] 2 = mkF m 0 #[.val (.int x0), .unset] [] := by first | (simp [entryFrame, mkF, argsToLocals, Value.category]; done) | rfl
theorem pn_10 : plainFor (⟨"java/lang/Long", "numberOfTrailingZeros", "(J)I"⟩ : MethodName) = true := plainFor_of_name (by first | (simp [plainName, overriddenIn]; done) | decide +kernel)
theorem ef_10 (m : MethodId) (x0 : Int64) : entryFrame m #[(.long x0)] 3 = mkF m 0 #[.val (.long x0), .second, .unset] [] := by first | (simp [entryFrame, mkF, argsToLocals, Value.category]; done) | rfl
def own_m11_34a (x0 : Int32) : Int32 := (if (65536 : Int32) < ((x0 ^^^ (-1 : Int32)) &&& (x0 - (1 : Int32))) then (own_iushr ((x0 ^^^ (-1 : Int32)) &&& (x0 - (1 : Int32))) (16 : Int32)) else ((x0 ^^^ (-1 : Int32)) &&& (x0 - (1 : Int32))))
def own_m11_34b (x0 : Int32) : Int32 := (if (65536 : Int32) < ((x0 ^^^ (-1 : Int32)) &&& (x0 - (1 : Int32))) then (17 : Int32) else (1 : Int32))
def own_m11_49a (x0 : Int32) : Int32 := (if (256 : Int32) < (own_m11_34a x0) then (own_iushr (own_m11_34a x0) (8 : Int32)) else (own_m11_34a x0))
def own_m11_49b (x0 : Int32) : Int32 := (if (256 : Int32) < (own_m11_34a x0) then ((own_m11_34b x0) + (8 : Int32)) else (own_m11_34b x0))
def own_m11_62a (x0 : Int32) : Int32 := (if (16 : Int32) < (own_m11_49a x0) then (own_iushr (own_m11_49a x0) (4 : Int32)) else (own_m11_49a x0))
def own_m11_62b (x0 : Int32) : Int32 := (if (16 : Int32) < (own_m11_49a x0) then ((own_m11_49b x0) + (4 : Int32)) else (own_m11_49b x0))
def own_m11_74a (x0 : Int32) : Int32 := (if (4 : Int32) < (own_m11_62a x0) then (own_iushr (own_m11_62a x0) (2 : Int32)) else (own_m11_62a x0))
def own_m11_74b (x0 : Int32) : Int32 := (if (4 : Int32) < (own_m11_62a x0) then ((own_m11_62b x0) + (2 : Int32)) else (own_m11_62b x0))
def own_f11 (x0 : Int32) : Int32 := (if (0 : Int32) < ((x0 ^^^ (-1 : Int32)) &&& (x0 - (1 : Int32))) then ((own_m11_74b x0) + (own_iushr (own_m11_74a x0) (1 : Int32))) else (((x0 ^^^ (-1 : Int32)) &&& (x0 - (1 : Int32))) &&& (32 : Int32)))
set_option maxRecDepth 65536 in
set_option maxHeartbeats 40000000 in
theorem met11 (l : Launch) (Z : State) (a0 : Array Value) (hw : ∀ d ∈ tables_1, d.before a0 Z = true) (x0 : Int32) (h0 : Heap) :
    own_Met l Z (⟨"java/lang/Integer", "numberOfTrailingZeros", "(I)I"⟩ : MethodName) jdk_33_method_48_code 2 (some .int) { frames := 0, cells := 0, slots := 0, locals := 0 } #[(.int x0)] h0 (own_Pure (.int (own_f11 x0)) h0) := by
  refine own_met pn_11 ?_
  intro p e s m below meth c T0 X0 hx hby hml hown hZ e0 hret hlk hnm
  rw [ef_11 m x0]
  show own_Fin _ _ _ _ _ _ _ (T0.setTop (mkF m 0 #[.val (.int x0), .unset] []))
  refine own_of (fun _ kk => XS.iloadN X0.here hx rfl (hb hby d11_0) rfl kk) ?_
  show own_Fin _ _ _ _ _ _ _ (T0.setTop (mkF m 1 #[.val (.int x0), .unset] [(.int x0)]))
  refine own_of (fun _ kk => XS.iconst X0.here hx rfl (hb hby d11_1) kk) ?_
  show own_Fin _ _ _ _ _ _ _ (T0.setTop (mkF m 2 #[.val (.int x0), .unset] [(.int (-1 : Int32)), (.int x0)]))
  refine own_of (fun _ kk => XS.ixor X0.here hx rfl (hb hby d11_2) rfl kk) ?_
  show own_Fin _ _ _ _ _ _ _ (T0.setTop (mkF m 3 #[.val (.int x0), .unset] [(.int (x0 ^^^ (-1 : Int32)))]))
  refine own_of (fun _ kk => XS.iloadN X0.here hx rfl (hb hby d11_3) rfl kk) ?_
  show own_Fin _ _ _ _ _ _ _ (T0.setTop (mkF m 4 #[.val (.int x0), .unset] [(.int x0), (.int (x0 ^^^ (-1 : Int32)))]))
  refine own_of (fun _ kk => XS.iconst X0.here hx rfl (hb hby d11_4) kk) ?_
  show own_Fin _ _ _ _ _ _ _ (T0.setTop (mkF m 5 #[.val (.int x0), .unset] [(.int (1 : Int32)), (.int x0), (.int (x0 ^^^ (-1 : Int32)))]))
  refine own_of (fun _ kk => XS.isub X0.here hx rfl (hb hby d11_5) rfl kk) ?_
  show own_Fin _ _ _ _ _ _ _ (T0.setTop (mkF m 6 #[.val (.int x0), .unset] [(.int (x0 - (1 : Int32))), (.int (x0 ^^^ (-1 : Int32)))]))
  refine own_of (fun _ kk => XS.iand X0.here hx rfl (hb hby d11_6) rfl kk) ?_
  show own_Fin _ _ _ _ _ _ _ (T0.setTop (mkF m 7 #[.val (.int x0), .unset] [(.int ((x0 ^^^ (-1 : Int32)) &&& (x0 - (1 : Int32))))]))
  refine own_of (fun _ kk => XS.istoreN X0.here hx rfl (hb hby d11_7) rfl (l' := #[.val (.int ((x0 ^^^ (-1 : Int32)) &&& (x0 - (1 : Int32)))), .unset]) rfl kk) ?_
  show own_Fin _ _ _ _ _ _ _ (T0.setTop (mkF m 8 #[.val (.int ((x0 ^^^ (-1 : Int32)) &&& (x0 - (1 : Int32)))), .unset] []))
  refine own_of (fun _ kk => XS.iloadN X0.here hx rfl (hb hby d11_8) rfl kk) ?_
  show own_Fin _ _ _ _ _ _ _ (T0.setTop (mkF m 9 #[.val (.int ((x0 ^^^ (-1 : Int32)) &&& (x0 - (1 : Int32)))), .unset] [(.int ((x0 ^^^ (-1 : Int32)) &&& (x0 - (1 : Int32))))]))
  by_cases c9 : (0 : Int32) < ((x0 ^^^ (-1 : Int32)) &&& (x0 - (1 : Int32)))
  · refine own_of (fun _ kk => XS.ifYes X0.here hx rfl (pc0 := 9) (pc' := 17) rfl (hb hby d11_9) rfl ((if0 _ _).trans (tlt c9).2.2.1) (by decide) (by decide) kk) ?_
    show own_Fin _ _ _ _ _ _ _ (T0.setTop (mkF m 17 #[.val (.int ((x0 ^^^ (-1 : Int32)) &&& (x0 - (1 : Int32)))), .unset] []))
    refine own_of (fun _ kk => XS.iconst X0.here hx rfl (hb hby d11_17) kk) ?_
    show own_Fin _ _ _ _ _ _ _ (T0.setTop (mkF m 18 #[.val (.int ((x0 ^^^ (-1 : Int32)) &&& (x0 - (1 : Int32)))), .unset] [(.int (1 : Int32))]))
    refine own_of (fun _ kk => XS.istoreN X0.here hx rfl (hb hby d11_18) rfl (l' := #[.val (.int ((x0 ^^^ (-1 : Int32)) &&& (x0 - (1 : Int32)))), .val (.int (1 : Int32))]) rfl kk) ?_
    show own_Fin _ _ _ _ _ _ _ (T0.setTop (mkF m 19 #[.val (.int ((x0 ^^^ (-1 : Int32)) &&& (x0 - (1 : Int32)))), .val (.int (1 : Int32))] []))
    refine own_of (fun _ kk => XS.iloadN X0.here hx rfl (hb hby d11_19) rfl kk) ?_
    show own_Fin _ _ _ _ _ _ _ (T0.setTop (mkF m 20 #[.val (.int ((x0 ^^^ (-1 : Int32)) &&& (x0 - (1 : Int32)))), .val (.int (1 : Int32))] [(.int ((x0 ^^^ (-1 : Int32)) &&& (x0 - (1 : Int32))))]))
    refine own_of (fun _ kk => X0.ldcwInt hx hown (mvT hZ (hw _ (List.mem_of_getElem? (i := 89) rfl))) (g := (mkF m 20 #[.val (.int ((x0 ^^^ (-1 : Int32)) &&& (x0 - (1 : Int32)))), .val (.int (1 : Int32))] [(.int ((x0 ^^^ (-1 : Int32)) &&& (x0 - (1 : Int32))))])) rfl (hb hby d11_20) _ kk) ?_
    show own_Fin _ _ _ _ _ _ _ (T0.setTop (mkF m 23 #[.val (.int ((x0 ^^^ (-1 : Int32)) &&& (x0 - (1 : Int32)))), .val (.int (1 : Int32))] [(.int (65536 : Int32)), (.int ((x0 ^^^ (-1 : Int32)) &&& (x0 - (1 : Int32))))]))
    suffices k1 : own_Fin _ _ _ _ _ _ _ (T0.setTop (mkF m 34 #[.val (.int (own_m11_34a x0)), .val (.int (own_m11_34b x0))] [])) by
      by_cases c23 : (65536 : Int32) < ((x0 ^^^ (-1 : Int32)) &&& (x0 - (1 : Int32)))
      · refine own_of (fun _ kk => XS.icmpNo X0.here hx rfl (hb hby d11_23) rfl (tlt c23).2.2.2 kk) ?_
        show own_Fin _ _ _ _ _ _ _ (T0.setTop (mkF m 26 #[.val (.int ((x0 ^^^ (-1 : Int32)) &&& (x0 - (1 : Int32)))), .val (.int (1 : Int32))] []))
        refine own_of (fun _ kk => XS.iinc X0.here hx rfl (hb hby d11_26) rfl (l' := #[.val (.int ((x0 ^^^ (-1 : Int32)) &&& (x0 - (1 : Int32)))), .val (.int (17 : Int32))]) rfl kk) ?_
        show own_Fin _ _ _ _ _ _ _ (T0.setTop (mkF m 29 #[.val (.int ((x0 ^^^ (-1 : Int32)) &&& (x0 - (1 : Int32)))), .val (.int (17 : Int32))] []))
        refine own_of (fun _ kk => XS.iloadN X0.here hx rfl (hb hby d11_29) rfl kk) ?_
        show own_Fin _ _ _ _ _ _ _ (T0.setTop (mkF m 30 #[.val (.int ((x0 ^^^ (-1 : Int32)) &&& (x0 - (1 : Int32)))), .val (.int (17 : Int32))] [(.int ((x0 ^^^ (-1 : Int32)) &&& (x0 - (1 : Int32))))]))
        refine own_of (fun _ kk => XS.bipush X0.here hx rfl (hb hby d11_30) kk) ?_
        show own_Fin _ _ _ _ _ _ _ (T0.setTop (mkF m 32 #[.val (.int ((x0 ^^^ (-1 : Int32)) &&& (x0 - (1 : Int32)))), .val (.int (17 : Int32))] [(.int (16 : Int32)), (.int ((x0 ^^^ (-1 : Int32)) &&& (x0 - (1 : Int32))))]))
        refine own_of (fun _ kk => XS.iushr X0.here hx rfl (hb hby d11_32) rfl kk) ?_
        show own_Fin _ _ _ _ _ _ _ (T0.setTop (mkF m 33 #[.val (.int ((x0 ^^^ (-1 : Int32)) &&& (x0 - (1 : Int32)))), .val (.int (17 : Int32))] [(.int (own_iushr ((x0 ^^^ (-1 : Int32)) &&& (x0 - (1 : Int32))) (16 : Int32)))]))
        refine own_of (fun _ kk => XS.istoreN X0.here hx rfl (hb hby d11_33) rfl (l' := #[.val (.int (own_iushr ((x0 ^^^ (-1 : Int32)) &&& (x0 - (1 : Int32))) (16 : Int32))), .val (.int (17 : Int32))]) rfl kk) ?_
        show own_Fin _ _ _ _ _ _ _ (T0.setTop (mkF m 34 #[.val (.int (own_iushr ((x0 ^^^ (-1 : Int32)) &&& (x0 - (1 : Int32))) (16 : Int32))), .val (.int (17 : Int32))] []))
        simp only [own_m11_34a, own_m11_34b, if_pos c23] at k1 ⊢
        exact k1
      · refine own_of (fun _ kk => XS.icmpYes X0.here hx rfl (pc0 := 23) (pc' := 34) rfl (hb hby d11_23) rfl (flt c23).2.2.2 (by decide) (by decide) kk) ?_
        show own_Fin _ _ _ _ _ _ _ (T0.setTop (mkF m 34 #[.val (.int ((x0 ^^^ (-1 : Int32)) &&& (x0 - (1 : Int32)))), .val (.int (1 : Int32))] []))
        simp only [own_m11_34a, own_m11_34b, if_neg c23] at k1 ⊢
        exact k1
    show own_Fin _ _ _ _ _ _ _ (T0.setTop (mkF m 34 #[.val (.int (own_m11_34a x0)), .val (.int (own_m11_34b x0))] []))
    refine own_of (fun _ kk => XS.iloadN X0.here hx rfl (hb hby d11_34) rfl kk) ?_
    show own_Fin _ _ _ _ _ _ _ (T0.setTop (mkF m 35 #[.val (.int (own_m11_34a x0)), .val (.int (own_m11_34b x0))] [(.int (own_m11_34a x0))]))
    refine own_of (fun _ kk => XS.sipush X0.here hx rfl (hb hby d11_35) kk) ?_
    show own_Fin _ _ _ _ _ _ _ (T0.setTop (mkF m 38 #[.val (.int (own_m11_34a x0)), .val (.int (own_m11_34b x0))] [(.int (256 : Int32)), (.int (own_m11_34a x0))]))
    suffices k2 : own_Fin _ _ _ _ _ _ _ (T0.setTop (mkF m 49 #[.val (.int (own_m11_49a x0)), .val (.int (own_m11_49b x0))] [])) by
      by_cases c38 : (256 : Int32) < (own_m11_34a x0)
      · refine own_of (fun _ kk => XS.icmpNo X0.here hx rfl (hb hby d11_38) rfl (tlt c38).2.2.2 kk) ?_
        show own_Fin _ _ _ _ _ _ _ (T0.setTop (mkF m 41 #[.val (.int (own_m11_34a x0)), .val (.int (own_m11_34b x0))] []))
        refine own_of (fun _ kk => XS.iinc X0.here hx rfl (hb hby d11_41) rfl (l' := #[.val (.int (own_m11_34a x0)), .val (.int ((own_m11_34b x0) + (8 : Int32)))]) rfl kk) ?_
        show own_Fin _ _ _ _ _ _ _ (T0.setTop (mkF m 44 #[.val (.int (own_m11_34a x0)), .val (.int ((own_m11_34b x0) + (8 : Int32)))] []))
        refine own_of (fun _ kk => XS.iloadN X0.here hx rfl (hb hby d11_44) rfl kk) ?_
        show own_Fin _ _ _ _ _ _ _ (T0.setTop (mkF m 45 #[.val (.int (own_m11_34a x0)), .val (.int ((own_m11_34b x0) + (8 : Int32)))] [(.int (own_m11_34a x0))]))
        refine own_of (fun _ kk => XS.bipush X0.here hx rfl (hb hby d11_45) kk) ?_
        show own_Fin _ _ _ _ _ _ _ (T0.setTop (mkF m 47 #[.val (.int (own_m11_34a x0)), .val (.int ((own_m11_34b x0) + (8 : Int32)))] [(.int (8 : Int32)), (.int (own_m11_34a x0))]))
        refine own_of (fun _ kk => XS.iushr X0.here hx rfl (hb hby d11_47) rfl kk) ?_
        show own_Fin _ _ _ _ _ _ _ (T0.setTop (mkF m 48 #[.val (.int (own_m11_34a x0)), .val (.int ((own_m11_34b x0) + (8 : Int32)))] [(.int (own_iushr (own_m11_34a x0) (8 : Int32)))]))
        refine own_of (fun _ kk => XS.istoreN X0.here hx rfl (hb hby d11_48) rfl (l' := #[.val (.int (own_iushr (own_m11_34a x0) (8 : Int32))), .val (.int ((own_m11_34b x0) + (8 : Int32)))]) rfl kk) ?_
        show own_Fin _ _ _ _ _ _ _ (T0.setTop (mkF m 49 #[.val (.int (own_iushr (own_m11_34a x0) (8 : Int32))), .val (.int ((own_m11_34b x0) + (8 : Int32)))] []))
        simp only [own_m11_49a, own_m11_49b, if_pos c38] at k2 ⊢
        exact k2
      · refine own_of (fun _ kk => XS.icmpYes X0.here hx rfl (pc0 := 38) (pc' := 49) rfl (hb hby d11_38) rfl (flt c38).2.2.2 (by decide) (by decide) kk) ?_
        show own_Fin _ _ _ _ _ _ _ (T0.setTop (mkF m 49 #[.val (.int (own_m11_34a x0)), .val (.int (own_m11_34b x0))] []))
        simp only [own_m11_49a, own_m11_49b, if_neg c38] at k2 ⊢
        exact k2
    show own_Fin _ _ _ _ _ _ _ (T0.setTop (mkF m 49 #[.val (.int (own_m11_49a x0)), .val (.int (own_m11_49b x0))] []))
    refine own_of (fun _ kk => XS.iloadN X0.here hx rfl (hb hby d11_49) rfl kk) ?_
    show own_Fin _ _ _ _ _ _ _ (T0.setTop (mkF m 50 #[.val (.int (own_m11_49a x0)), .val (.int (own_m11_49b x0))] [(.int (own_m11_49a x0))]))
    refine own_of (fun _ kk => XS.bipush X0.here hx rfl (hb hby d11_50) kk) ?_
    show own_Fin _ _ _ _ _ _ _ (T0.setTop (mkF m 52 #[.val (.int (own_m11_49a x0)), .val (.int (own_m11_49b x0))] [(.int (16 : Int32)), (.int (own_m11_49a x0))]))
    suffices k3 : own_Fin _ _ _ _ _ _ _ (T0.setTop (mkF m 62 #[.val (.int (own_m11_62a x0)), .val (.int (own_m11_62b x0))] [])) by
      by_cases c52 : (16 : Int32) < (own_m11_49a x0)
      · refine own_of (fun _ kk => XS.icmpNo X0.here hx rfl (hb hby d11_52) rfl (tlt c52).2.2.2 kk) ?_
        show own_Fin _ _ _ _ _ _ _ (T0.setTop (mkF m 55 #[.val (.int (own_m11_49a x0)), .val (.int (own_m11_49b x0))] []))
        refine own_of (fun _ kk => XS.iinc X0.here hx rfl (hb hby d11_55) rfl (l' := #[.val (.int (own_m11_49a x0)), .val (.int ((own_m11_49b x0) + (4 : Int32)))]) rfl kk) ?_
        show own_Fin _ _ _ _ _ _ _ (T0.setTop (mkF m 58 #[.val (.int (own_m11_49a x0)), .val (.int ((own_m11_49b x0) + (4 : Int32)))] []))
        refine own_of (fun _ kk => XS.iloadN X0.here hx rfl (hb hby d11_58) rfl kk) ?_
        show own_Fin _ _ _ _ _ _ _ (T0.setTop (mkF m 59 #[.val (.int (own_m11_49a x0)), .val (.int ((own_m11_49b x0) + (4 : Int32)))] [(.int (own_m11_49a x0))]))
        refine own_of (fun _ kk => XS.iconst X0.here hx rfl (hb hby d11_59) kk) ?_
        show own_Fin _ _ _ _ _ _ _ (T0.setTop (mkF m 60 #[.val (.int (own_m11_49a x0)), .val (.int ((own_m11_49b x0) + (4 : Int32)))] [(.int (4 : Int32)), (.int (own_m11_49a x0))]))
        refine own_of (fun _ kk => XS.iushr X0.here hx rfl (hb hby d11_60) rfl kk) ?_
        show own_Fin _ _ _ _ _ _ _ (T0.setTop (mkF m 61 #[.val (.int (own_m11_49a x0)), .val (.int ((own_m11_49b x0) + (4 : Int32)))] [(.int (own_iushr (own_m11_49a x0) (4 : Int32)))]))
        refine own_of (fun _ kk => XS.istoreN X0.here hx rfl (hb hby d11_61) rfl (l' := #[.val (.int (own_iushr (own_m11_49a x0) (4 : Int32))), .val (.int ((own_m11_49b x0) + (4 : Int32)))]) rfl kk) ?_
        show own_Fin _ _ _ _ _ _ _ (T0.setTop (mkF m 62 #[.val (.int (own_iushr (own_m11_49a x0) (4 : Int32))), .val (.int ((own_m11_49b x0) + (4 : Int32)))] []))
        simp only [own_m11_62a, own_m11_62b, if_pos c52] at k3 ⊢
        exact k3
      · refine own_of (fun _ kk => XS.icmpYes X0.here hx rfl (pc0 := 52) (pc' := 62) rfl (hb hby d11_52) rfl (flt c52).2.2.2 (by decide) (by decide) kk) ?_
        show own_Fin _ _ _ _ _ _ _ (T0.setTop (mkF m 62 #[.val (.int (own_m11_49a x0)), .val (.int (own_m11_49b x0))] []))
        simp only [own_m11_62a, own_m11_62b, if_neg c52] at k3 ⊢
        exact k3
    show own_Fin _ _ _ _ _ _ _ (T0.setTop (mkF m 62 #[.val (.int (own_m11_62a x0)), .val (.int (own_m11_62b x0))] []))
    refine own_of (fun _ kk => XS.iloadN X0.here hx rfl (hb hby d11_62) rfl kk) ?_
    show own_Fin _ _ _ _ _ _ _ (T0.setTop (mkF m 63 #[.val (.int (own_m11_62a x0)), .val (.int (own_m11_62b x0))] [(.int (own_m11_62a x0))]))
    refine own_of (fun _ kk => XS.iconst X0.here hx rfl (hb hby d11_63) kk) ?_
    show own_Fin _ _ _ _ _ _ _ (T0.setTop (mkF m 64 #[.val (.int (own_m11_62a x0)), .val (.int (own_m11_62b x0))] [(.int (4 : Int32)), (.int (own_m11_62a x0))]))
    suffices k4 : own_Fin _ _ _ _ _ _ _ (T0.setTop (mkF m 74 #[.val (.int (own_m11_74a x0)), .val (.int (own_m11_74b x0))] [])) by
      by_cases c64 : (4 : Int32) < (own_m11_62a x0)
      · refine own_of (fun _ kk => XS.icmpNo X0.here hx rfl (hb hby d11_64) rfl (tlt c64).2.2.2 kk) ?_
        show own_Fin _ _ _ _ _ _ _ (T0.setTop (mkF m 67 #[.val (.int (own_m11_62a x0)), .val (.int (own_m11_62b x0))] []))
        refine own_of (fun _ kk => XS.iinc X0.here hx rfl (hb hby d11_67) rfl (l' := #[.val (.int (own_m11_62a x0)), .val (.int ((own_m11_62b x0) + (2 : Int32)))]) rfl kk) ?_
        show own_Fin _ _ _ _ _ _ _ (T0.setTop (mkF m 70 #[.val (.int (own_m11_62a x0)), .val (.int ((own_m11_62b x0) + (2 : Int32)))] []))
        refine own_of (fun _ kk => XS.iloadN X0.here hx rfl (hb hby d11_70) rfl kk) ?_
        show own_Fin _ _ _ _ _ _ _ (T0.setTop (mkF m 71 #[.val (.int (own_m11_62a x0)), .val (.int ((own_m11_62b x0) + (2 : Int32)))] [(.int (own_m11_62a x0))]))
        refine own_of (fun _ kk => XS.iconst X0.here hx rfl (hb hby d11_71) kk) ?_
        show own_Fin _ _ _ _ _ _ _ (T0.setTop (mkF m 72 #[.val (.int (own_m11_62a x0)), .val (.int ((own_m11_62b x0) + (2 : Int32)))] [(.int (2 : Int32)), (.int (own_m11_62a x0))]))
        refine own_of (fun _ kk => XS.iushr X0.here hx rfl (hb hby d11_72) rfl kk) ?_
        show own_Fin _ _ _ _ _ _ _ (T0.setTop (mkF m 73 #[.val (.int (own_m11_62a x0)), .val (.int ((own_m11_62b x0) + (2 : Int32)))] [(.int (own_iushr (own_m11_62a x0) (2 : Int32)))]))
        refine own_of (fun _ kk => XS.istoreN X0.here hx rfl (hb hby d11_73) rfl (l' := #[.val (.int (own_iushr (own_m11_62a x0) (2 : Int32))), .val (.int ((own_m11_62b x0) + (2 : Int32)))]) rfl kk) ?_
        show own_Fin _ _ _ _ _ _ _ (T0.setTop (mkF m 74 #[.val (.int (own_iushr (own_m11_62a x0) (2 : Int32))), .val (.int ((own_m11_62b x0) + (2 : Int32)))] []))
        simp only [own_m11_74a, own_m11_74b, if_pos c64] at k4 ⊢
        exact k4
      · refine own_of (fun _ kk => XS.icmpYes X0.here hx rfl (pc0 := 64) (pc' := 74) rfl (hb hby d11_64) rfl (flt c64).2.2.2 (by decide) (by decide) kk) ?_
        show own_Fin _ _ _ _ _ _ _ (T0.setTop (mkF m 74 #[.val (.int (own_m11_62a x0)), .val (.int (own_m11_62b x0))] []))
        simp only [own_m11_74a, own_m11_74b, if_neg c64] at k4 ⊢
        exact k4
    show own_Fin _ _ _ _ _ _ _ (T0.setTop (mkF m 74 #[.val (.int (own_m11_74a x0)), .val (.int (own_m11_74b x0))] []))
    refine own_of (fun _ kk => XS.iloadN X0.here hx rfl (hb hby d11_74) rfl kk) ?_
    show own_Fin _ _ _ _ _ _ _ (T0.setTop (mkF m 75 #[.val (.int (own_m11_74a x0)), .val (.int (own_m11_74b x0))] [(.int (own_m11_74b x0))]))
    refine own_of (fun _ kk => XS.iloadN X0.here hx rfl (hb hby d11_75) rfl kk) ?_
    show own_Fin _ _ _ _ _ _ _ (T0.setTop (mkF m 76 #[.val (.int (own_m11_74a x0)), .val (.int (own_m11_74b x0))] [(.int (own_m11_74a x0)), (.int (own_m11_74b x0))]))
    refine own_of (fun _ kk => XS.iconst X0.here hx rfl (hb hby d11_76) kk) ?_
    show own_Fin _ _ _ _ _ _ _ (T0.setTop (mkF m 77 #[.val (.int (own_m11_74a x0)), .val (.int (own_m11_74b x0))] [(.int (1 : Int32)), (.int (own_m11_74a x0)), (.int (own_m11_74b x0))]))
    refine own_of (fun _ kk => XS.iushr X0.here hx rfl (hb hby d11_77) rfl kk) ?_
    show own_Fin _ _ _ _ _ _ _ (T0.setTop (mkF m 78 #[.val (.int (own_m11_74a x0)), .val (.int (own_m11_74b x0))] [(.int (own_iushr (own_m11_74a x0) (1 : Int32))), (.int (own_m11_74b x0))]))
    refine own_of (fun _ kk => XS.iadd X0.here hx rfl (hb hby d11_78) rfl kk) ?_
    show own_Fin _ _ _ _ _ _ _ (T0.setTop (mkF m 79 #[.val (.int (own_m11_74a x0)), .val (.int (own_m11_74b x0))] [(.int ((own_m11_74b x0) + (own_iushr (own_m11_74a x0) (1 : Int32))))]))
    exact own_retI X0 hx hlk e0 hret (hb hby d11_79) (by decide) (by decide) ⟨by first | rfl | (simp only [own_f11, if_pos c9]; done), rfl, rfl⟩
  · refine own_of (fun _ kk => XS.ifNo X0.here hx rfl (hb hby d11_9) rfl ((if0 _ _).trans (flt c9).2.2.1) kk) ?_
    show own_Fin _ _ _ _ _ _ _ (T0.setTop (mkF m 12 #[.val (.int ((x0 ^^^ (-1 : Int32)) &&& (x0 - (1 : Int32)))), .unset] []))
    refine own_of (fun _ kk => XS.iloadN X0.here hx rfl (hb hby d11_12) rfl kk) ?_
    show own_Fin _ _ _ _ _ _ _ (T0.setTop (mkF m 13 #[.val (.int ((x0 ^^^ (-1 : Int32)) &&& (x0 - (1 : Int32)))), .unset] [(.int ((x0 ^^^ (-1 : Int32)) &&& (x0 - (1 : Int32))))]))
    refine own_of (fun _ kk => XS.bipush X0.here hx rfl (hb hby d11_13) kk) ?_
    show own_Fin _ _ _ _ _ _ _ (T0.setTop (mkF m 15 #[.val (.int ((x0 ^^^ (-1 : Int32)) &&& (x0 - (1 : Int32)))), .unset] [(.int (32 : Int32)), (.int ((x0 ^^^ (-1 : Int32)) &&& (x0 - (1 : Int32))))]))
    refine own_of (fun _ kk => XS.iand X0.here hx rfl (hb hby d11_15) rfl kk) ?_
    show own_Fin _ _ _ _ _ _ _ (T0.setTop (mkF m 16 #[.val (.int ((x0 ^^^ (-1 : Int32)) &&& (x0 - (1 : Int32)))), .unset] [(.int (((x0 ^^^ (-1 : Int32)) &&& (x0 - (1 : Int32))) &&& (32 : Int32)))]))
    exact own_retI X0 hx hlk e0 hret (hb hby d11_16) (by decide) (by decide) ⟨by first | rfl | (simp only [own_f11, if_neg c9]; done), rfl, rfl⟩
def own_f10 (x0 : Int64) : Int32 := (if x0.toInt32 = (0 : Int32) then ((32 : Int32) + (own_f11 (own_lushr x0 (32 : Int32)).toInt32)) else (own_f11 x0.toInt32))
set_option maxRecDepth 65536 in
set_option maxHeartbeats 40000000 in
theorem met10 (l : Launch) (Z : State) (a0 : Array Value) (hw : ∀ d ∈ tables_1, d.before a0 Z = true) (x0 : Int64) (h0 : Heap) :
    own_Met l Z (⟨"java/lang/Long", "numberOfTrailingZeros", "(J)I"⟩ : MethodName) jdk_35_method_49_code 3 (some .int) { frames := 1, cells := 0, slots := 0, locals := 14 } #[(.long x0)] h0 (own_Pure (.int (own_f10 x0)) h0) := by
  refine own_met pn_10 ?_
  intro p e s m below meth c T0 X0 hx hby hml hown hZ e0 hret hlk hnm
  rw [ef_10 m x0]
  show own_Fin _ _ _ _ _ _ _ (T0.setTop (mkF m 0 #[.val (.long x0), .second, .unset] []))
  refine own_of (fun _ kk => XS.lloadN X0.here hx rfl (hb hby d10_0) rfl kk) ?_
  show own_Fin _ _ _ _ _ _ _ (T0.setTop (mkF m 1 #[.val (.long x0), .second, .unset] [(.long x0)]))
  refine own_of (fun _ kk => XS.l2i X0.here hx rfl (hb hby d10_1) rfl kk) ?_
  show own_Fin _ _ _ _ _ _ _ (T0.setTop (mkF m 2 #[.val (.long x0), .second, .unset] [(.int x0.toInt32)]))
  refine own_of (fun _ kk => XS.istoreN X0.here hx rfl (hb hby d10_2) rfl (l' := #[.val (.long x0), .second, .val (.int x0.toInt32)]) rfl kk) ?_
  show own_Fin _ _ _ _ _ _ _ (T0.setTop (mkF m 3 #[.val (.long x0), .second, .val (.int x0.toInt32)] []))
  refine own_of (fun _ kk => XS.iloadN X0.here hx rfl (hb hby d10_3) rfl kk) ?_
  show own_Fin _ _ _ _ _ _ _ (T0.setTop (mkF m 4 #[.val (.long x0), .second, .val (.int x0.toInt32)] [(.int x0.toInt32)]))
  by_cases c4 : x0.toInt32 = (0 : Int32)
  · refine own_of (fun _ kk => XS.ifNo X0.here hx rfl (hb hby d10_4) rfl ((if0 _ _).trans (teq c4).2) kk) ?_
    show own_Fin _ _ _ _ _ _ _ (T0.setTop (mkF m 7 #[.val (.long x0), .second, .val (.int x0.toInt32)] []))
    refine own_of (fun _ kk => XS.bipush X0.here hx rfl (hb hby d10_7) kk) ?_
    show own_Fin _ _ _ _ _ _ _ (T0.setTop (mkF m 9 #[.val (.long x0), .second, .val (.int x0.toInt32)] [(.int (32 : Int32))]))
    refine own_of (fun _ kk => XS.lloadN X0.here hx rfl (hb hby d10_9) rfl kk) ?_
    show own_Fin _ _ _ _ _ _ _ (T0.setTop (mkF m 10 #[.val (.long x0), .second, .val (.int x0.toInt32)] [(.long x0), (.int (32 : Int32))]))
    refine own_of (fun _ kk => XS.bipush X0.here hx rfl (hb hby d10_10) kk) ?_
    show own_Fin _ _ _ _ _ _ _ (T0.setTop (mkF m 12 #[.val (.long x0), .second, .val (.int x0.toInt32)] [(.int (32 : Int32)), (.long x0), (.int (32 : Int32))]))
    refine own_of (fun _ kk => XS.lushr X0.here hx rfl (hb hby d10_12) rfl kk) ?_
    show own_Fin _ _ _ _ _ _ _ (T0.setTop (mkF m 13 #[.val (.long x0), .second, .val (.int x0.toInt32)] [(.long (own_lushr x0 (32 : Int32))), (.int (32 : Int32))]))
    refine own_of (fun _ kk => XS.l2i X0.here hx rfl (hb hby d10_13) rfl kk) ?_
    show own_Fin _ _ _ _ _ _ _ (T0.setTop (mkF m 14 #[.val (.long x0), .second, .val (.int x0.toInt32)] [(.int (own_lushr x0 (32 : Int32)).toInt32), (.int (32 : Int32))]))
    refine own_callP X0 hx hZ hown (hw _ (List.mem_of_getElem? (i := 53) rfl)) (hw _ (List.mem_of_getElem? (i := 54) rfl)) (hw _ (List.mem_of_getElem? (i := 55) rfl)) (hw _ (List.mem_of_getElem? (i := 56) rfl)) (by decide) e0 (argsL := [(.int (own_lushr x0 (32 : Int32)).toInt32)]) (rv := (.int (own_f11 (own_lushr x0 (32 : Int32)).toInt32))) (met11 l Z a0 hw (own_lushr x0 (32 : Int32)).toInt32 h0) (W := 1) (by decide) (by decide) (by decide) (by decide) (by rw [hml]; rfl) pd_2 rfl (rest := [(.int (32 : Int32))]) rfl (Nat.le_of_eq rfl) (hb hby d10_14) ?_
    intro T1 X1 e1
    show own_Fin _ _ _ _ _ _ _ (T1.setTop (mkF m 17 #[.val (.long x0), .second, .val (.int x0.toInt32)] [(.int (own_f11 (own_lushr x0 (32 : Int32)).toInt32)), (.int (32 : Int32))]))
    refine own_of (fun _ kk => XS.iadd X1.here hx rfl (hb hby d10_17) rfl kk) ?_
    show own_Fin _ _ _ _ _ _ _ (T1.setTop (mkF m 18 #[.val (.long x0), .second, .val (.int x0.toInt32)] [(.int ((32 : Int32) + (own_f11 (own_lushr x0 (32 : Int32)).toInt32)))]))
    refine own_of (fun _ kk => XS.goto X1.here hx rfl (pc0 := 18) (pc' := 25) rfl (hb hby d10_18) (by decide) (by decide) kk) ?_
    show own_Fin _ _ _ _ _ _ _ (T1.setTop (mkF m 25 #[.val (.long x0), .second, .val (.int x0.toInt32)] [(.int ((32 : Int32) + (own_f11 (own_lushr x0 (32 : Int32)).toInt32)))]))
    exact own_retI X1 hx hlk e1 hret (hb hby d10_25) (by decide) (by decide) ⟨by first | rfl | (simp only [own_f10, if_pos c4]; done), rfl, rfl⟩
  · refine own_of (fun _ kk => XS.ifYes X0.here hx rfl (pc0 := 4) (pc' := 21) rfl (hb hby d10_4) rfl ((if0 _ _).trans (feq c4).2) (by decide) (by decide) kk) ?_
    show own_Fin _ _ _ _ _ _ _ (T0.setTop (mkF m 21 #[.val (.long x0), .second, .val (.int x0.toInt32)] []))
    refine own_of (fun _ kk => XS.iloadN X0.here hx rfl (hb hby d10_21) rfl kk) ?_
    show own_Fin _ _ _ _ _ _ _ (T0.setTop (mkF m 22 #[.val (.long x0), .second, .val (.int x0.toInt32)] [(.int x0.toInt32)]))
    refine own_callP X0 hx hZ hown (hw _ (List.mem_of_getElem? (i := 53) rfl)) (hw _ (List.mem_of_getElem? (i := 54) rfl)) (hw _ (List.mem_of_getElem? (i := 55) rfl)) (hw _ (List.mem_of_getElem? (i := 56) rfl)) (by decide) e0 (argsL := [(.int x0.toInt32)]) (rv := (.int (own_f11 x0.toInt32))) (met11 l Z a0 hw x0.toInt32 h0) (W := 0) (by decide) (by decide) (by decide) (by decide) (by rw [hml]; rfl) pd_2 rfl (rest := []) rfl (Nat.le_of_eq rfl) (hb hby d10_22) ?_
    intro T2 X2 e2
    show own_Fin _ _ _ _ _ _ _ (T2.setTop (mkF m 25 #[.val (.long x0), .second, .val (.int x0.toInt32)] [(.int (own_f11 x0.toInt32))]))
    exact own_retI X2 hx hlk e2 hret (hb hby d10_25) (by decide) (by decide) ⟨by first | rfl | (simp only [own_f10, if_neg c4]; done), rfl, rfl⟩
def own_zm11_34a (z : Int32) : Int32 := (if (65536 : Int32) < z then (own_iushr z (16 : Int32)) else z)
def own_zm11_34b (z : Int32) : Int32 := (if (65536 : Int32) < z then (17 : Int32) else (1 : Int32))
def own_zm11_49a (z : Int32) : Int32 := (if (256 : Int32) < (own_zm11_34a z) then (own_iushr (own_zm11_34a z) (8 : Int32)) else (own_zm11_34a z))
def own_zm11_49b (z : Int32) : Int32 := (if (256 : Int32) < (own_zm11_34a z) then ((own_zm11_34b z) + (8 : Int32)) else (own_zm11_34b z))
def own_zm11_62a (z : Int32) : Int32 := (if (16 : Int32) < (own_zm11_49a z) then (own_iushr (own_zm11_49a z) (4 : Int32)) else (own_zm11_49a z))
def own_zm11_62b (z : Int32) : Int32 := (if (16 : Int32) < (own_zm11_49a z) then ((own_zm11_49b z) + (4 : Int32)) else (own_zm11_49b z))
def own_zm11_74a (z : Int32) : Int32 := (if (4 : Int32) < (own_zm11_62a z) then (own_iushr (own_zm11_62a z) (2 : Int32)) else (own_zm11_62a z))
def own_zm11_74b (z : Int32) : Int32 := (if (4 : Int32) < (own_zm11_62a z) then ((own_zm11_62b z) + (2 : Int32)) else (own_zm11_62b z))
def own_zf (z : Int32) : Int32 := (if (0 : Int32) < z then ((own_zm11_74b z) + (own_iushr (own_zm11_74a z) (1 : Int32))) else (z &&& (32 : Int32)))
def own_bit (x : Int64) (q : Nat) : Bool := x.toBitVec.getLsbD q
def own_bit32 (x : Int32) (q : Nat) : Bool := x.toBitVec.getLsbD q
def own_low (n : Nat) (p : Nat) : Prop := n.testBit p = true ∧ ∀ q, q < p → n.testBit q = false
theorem own_low_odd {n p : Nat} (h : own_low n p) : ∃ u, n = 2 ^ p * (2 * u + 1) := by
  have h1 : n % 2 ^ p = 0 := by
    apply Nat.eq_of_testBit_eq
    intro i
    rw [Nat.testBit_mod_two_pow, Nat.zero_testBit]
    by_cases hi : i < p
    · rw [h.2 i hi]; simp
    · simp [hi]
  obtain ⟨m, hm⟩ := Nat.dvd_of_mod_eq_zero h1
  have h2 : m.testBit 0 = true := by
    have := h.1
    rw [hm, show 2 ^ p * m = 2 ^ p * m + 0 by omega, Nat.testBit_two_pow_mul_add m (Nat.pow_pos (by decide)) p] at this
    simpa using this
  rw [Nat.testBit_zero] at h2
  have h3 : m % 2 = 1 := by simpa using h2
  exact ⟨m / 2, by rw [hm]; congr 1; omega⟩
theorem own_pred_bit {n p : Nat} (h : own_low n p) (q : Nat) : (n - 1).testBit q = if q < p then true else (if q = p then false else n.testBit q) := by
  obtain ⟨u, hu⟩ := own_low_odd h
  have hp : 0 < 2 ^ p := Nat.pow_pos (by decide)
  have e : n - 1 = 2 ^ p * (2 * u) + (2 ^ p - 1) := by
    rw [hu, Nat.mul_add, Nat.mul_one]; omega
  have e2 : n = 2 ^ p * (2 * u + 1) + 0 := by omega
  rw [e, Nat.testBit_two_pow_mul_add _ (by omega)]
  by_cases h1 : q < p
  · rw [if_pos h1, if_pos h1, Nat.testBit_two_pow_sub_one]; simp [h1]
  · rw [if_neg h1, if_neg h1]
    by_cases h2 : q = p
    · rw [if_pos h2, h2, Nat.sub_self, Nat.testBit_zero]; simp
    · rw [if_neg h2, e2, Nat.testBit_two_pow_mul_add _ hp, if_neg h1]
      obtain ⟨r, hr⟩ : ∃ r, q - p = r + 1 := ⟨q - p - 1, by omega⟩
      rw [hr, Nat.testBit_succ, Nat.testBit_succ]
      congr 1; omega
theorem own_low_pos {n p : Nat} (h : own_low n p) : 0 < n := by
  rcases Nat.eq_zero_or_pos n with z | z
  · have := h.1; rw [z, Nat.zero_testBit] at this; cases this
  · exact z
theorem own_clr (x : Int64) (p : Nat) (h : own_low x.toBitVec.toNat p) (q : Nat) : own_bit (x &&& (x - 1)) q = (own_bit x q && decide (¬ q = p)) := by
  have hp := own_low_pos h
  have e : (x.toBitVec - 1#64).toNat = x.toBitVec.toNat - 1 := by
    rw [BitVec.toNat_sub_of_le (by rw [BitVec.le_def]; show 1 ≤ _; omega)]; rfl
  show (x.toBitVec &&& (x.toBitVec - 1#64)).getLsbD q = (x.toBitVec.getLsbD q && _)
  rw [BitVec.getLsbD_and]
  show (x.toBitVec.getLsbD q && (x.toBitVec - 1#64).toNat.testBit q) = _
  rw [e, own_pred_bit h q]
  by_cases h1 : q < p
  · have : x.toBitVec.getLsbD q = false := h.2 q h1
    simp [this]
  · rw [if_neg h1]
    by_cases h2 : q = p
    · simp [h2]
    · rw [if_neg h2]
      show (x.toBitVec.getLsbD q && x.toBitVec.getLsbD q) = _
      simp [h2]
theorem own_z (y : Int32) (p : Nat) (hp : p < 32) (h : own_low y.toBitVec.toNat p) : ((y ^^^ (-1 : Int32)) &&& (y - (1 : Int32))) = Int32.ofBitVec (BitVec.ofNat 32 (2 ^ p - 1)) := by
  have h0 := own_low_pos h
  apply Int32.toBitVec_inj.mp
  have e : (y.toBitVec - 1#32).toNat = y.toBitVec.toNat - 1 := by
    rw [BitVec.toNat_sub_of_le (by rw [BitVec.le_def]; show 1 ≤ _; omega)]; rfl
  show ((y.toBitVec ^^^ (-1 : Int32).toBitVec) &&& (y.toBitVec - 1#32)) = BitVec.ofNat 32 (2 ^ p - 1)
  apply BitVec.eq_of_getLsbD_eq
  intro q hq
  rw [BitVec.getLsbD_and, BitVec.getLsbD_xor, show (-1 : Int32).toBitVec = BitVec.allOnes 32 by decide, BitVec.getLsbD_allOnes, BitVec.getLsbD_ofNat, Nat.testBit_two_pow_sub_one]
  show (((y.toBitVec.toNat.testBit q) ^^ decide (q < 32)) && (y.toBitVec - 1#32).toNat.testBit q) = _
  rw [e, own_pred_bit h q]
  by_cases h1 : q < p
  · simp [h1, hq, h.2 q h1]
  · rw [if_neg h1]
    by_cases h2 : q = p
    · simp [h2]
    · rw [if_neg h2]; simp [h1, hq]
theorem own_ntzI (y : Int32) (p : Nat) (hp : p < 32) (h : own_low y.toBitVec.toNat p) : own_f11 y = Int32.ofNat p := by
  have e := own_z y p hp h
  have d : ∀ p : Fin 32, own_zf (Int32.ofBitVec (BitVec.ofNat 32 (2 ^ p.1 - 1))) = Int32.ofNat p.1 := by decide +kernel
  show own_zf ((y ^^^ (-1 : Int32)) &&& (y - (1 : Int32))) = _
  rw [e]; exact d ⟨p, hp⟩
theorem own_l2i_nat (x : Int64) : x.toInt32.toBitVec.toNat = x.toBitVec.toNat % 2 ^ 32 := by
  show (x.toBitVec.signExtend 32).toNat = _
  rw [BitVec.signExtend_eq_setWidth_of_le _ (by decide), BitVec.toNat_setWidth]
theorem own_ntz (x : Int64) (p : Nat) (hp : p < 64) (h : own_low x.toBitVec.toNat p) : own_f10 x = Int32.ofNat p := by
  unfold own_f10
  by_cases h1 : p < 32
  · have hl : own_low x.toInt32.toBitVec.toNat p := by
      rw [own_l2i_nat]
      refine ⟨by rw [Nat.testBit_mod_two_pow, h.1]; simp [h1], fun q hq => by rw [Nat.testBit_mod_two_pow, h.2 q hq]; simp⟩
    rw [if_neg (fun e => by have := own_low_pos hl; rw [e] at this; exact absurd this (by decide))]
    exact own_ntzI _ p h1 hl
  · have hz : x.toInt32 = 0 := by
      apply Int32.toBitVec_inj.mp
      apply BitVec.eq_of_toNat_eq
      rw [own_l2i_nat]
      show _ = 0
      apply Nat.eq_of_testBit_eq
      intro i
      rw [Nat.testBit_mod_two_pow, Nat.zero_testBit]
      by_cases hi : i < 32
      · rw [h.2 i (by omega)]; simp
      · simp [hi]
    rw [if_pos hz]
    have hl : own_low (own_lushr x 32).toInt32.toBitVec.toNat (p - 32) := by
      rw [own_l2i_nat, own_lushr_nat x 32 32 (by decide)]
      refine ⟨?_, fun q hq => ?_⟩
      · rw [Nat.testBit_mod_two_pow, Nat.testBit_div_two_pow, show p - 32 + 32 = p by omega, h.1]; simp; omega
      · rw [Nat.testBit_mod_two_pow, Nat.testBit_div_two_pow, h.2 (q + 32) (by omega)]; simp
    rw [own_ntzI _ (p - 32) (by omega) hl]
    have d : ∀ p : Fin 32, (32 : Int32) + Int32.ofNat p.1 = Int32.ofNat (p.1 + 32) := by decide +kernel
    have := d ⟨p - 32, by omega⟩
    rw [this]; congr 1; show p - 32 + 32 = p; omega
def own_VS (Z : State) (h : Heap) (n0 : Nat) (o : Addr) (cap nw : Nat) (sz wc : Int32) (a1 a2 a3 : Addr) (V : Nat → Int32) (H : Nat → Int64) (D : Nat → Int32) : Prop :=
  Exa Z h o "com/example/shardloom/shardloom/VertexSet" ∧ Fld Z h o "com/example/shardloom/shardloom/VertexSet" "size" "I" (.int sz) ∧ Fld Z h o "com/example/shardloom/shardloom/VertexSet" "wordCount" "I" (.int wc) ∧ Fld Z h o "com/example/shardloom/shardloom/VertexSet" "vertices" "[I" (.ref a1) ∧ Fld Z h o "com/example/shardloom/shardloom/VertexSet" "held" "[J" (.ref a2) ∧ Fld Z h o "com/example/shardloom/shardloom/VertexSet" "words" "[I" (.ref a3) ∧
  own_Arf Z h a1 .int cap (fun j => .int (V j)) ∧ own_Arf Z h a2 .long nw (fun j => .long (H j)) ∧ own_Arf Z h a3 .int nw (fun j => .int (D j)) ∧ Exa Z h a1 "[I" ∧
  (o ≠ a1 ∧ o ≠ a2 ∧ o ≠ a3 ∧ a1 ≠ a2 ∧ a1 ≠ a3 ∧ a2 ≠ a3) ∧ n0 ≤ o ∧ n0 ≤ a1 ∧ n0 ≤ a2 ∧ n0 ≤ a3
section VS
variable {Z : State} {h h' : Heap} {n0 : Nat} {o : Addr} {cap nw : Nat} {sz wc : Int32} {a1 a2 a3 : Addr} {V : Nat → Int32} {H : Nat → Int64} {D : Nat → Int32}
theorem own_VS.far (S : own_VS Z h n0 o cap nw sz wc a1 a2 a3 V H D) (b : Addr) (g : b = h.size) : o ≠ b ∧ a1 ≠ b ∧ a2 ≠ b ∧ a3 ≠ b := by
  obtain ⟨E, -, -, -, -, -, AV, AH, AW, -⟩ := S
  subst g
  exact ⟨Nat.ne_of_lt E.lt, Nat.ne_of_lt AV.lt, Nat.ne_of_lt AH.lt, Nat.ne_of_lt AW.lt⟩
theorem own_VS.ext (S : own_VS Z h n0 o cap nw sz wc a1 a2 a3 V H D) (X : Ext h h') : own_VS Z h' n0 o cap nw sz wc a1 a2 a3 V H D := by
  obtain ⟨E, F1, F2, F3, F4, F5, AV, AH, AW, EV, r⟩ := S
  exact ⟨E.ext X, F1.ext X, F2.ext X, F3.ext X, F4.ext X, F5.ext X, AV.ext X, AH.ext X, AW.ext X, EV.ext X, r⟩
theorem own_VS.wr {b : Addr} {sl : Nat} {v : Value} (S : own_VS Z h n0 o cap nw sz wc a1 a2 a3 V H D) (W : Wr h h' b sl v) (f : o ≠ b ∧ a1 ≠ b ∧ a2 ≠ b ∧ a3 ≠ b) : own_VS Z h' n0 o cap nw sz wc a1 a2 a3 V H D := by
  obtain ⟨E, F1, F2, F3, F4, F5, AV, AH, AW, EV, r⟩ := S
  obtain ⟨f0, f1, f2, f3⟩ := f
  exact ⟨E.wr W, F1.other W (Or.inl f0), F2.other W (Or.inl f0), F3.other W (Or.inl f0), F4.other W (Or.inl f0), F5.other W (Or.inl f0), AV.other W f1, AH.other W f2, AW.other W f3, EV.wr W, r⟩
theorem own_VS.keep (S : own_VS Z h n0 o cap nw sz wc a1 a2 a3 V H D) (K : Keep h h' []) : own_VS Z h' n0 o cap nw sz wc a1 a2 a3 V H D := by
  obtain ⟨E, F1, F2, F3, F4, F5, AV, AH, AW, EV, r⟩ := S
  exact ⟨E.keep K, F1.keep K nin0, F2.keep K nin0, F3.keep K nin0, F4.keep K nin0, F5.keep K nin0, AV.keep K nin0, AH.keep K nin0, AW.keep K nin0, EV.keep K, r⟩
theorem own_VS.keepW {D' : Nat → Int32} (S : own_VS Z h n0 o cap nw sz wc a1 a2 a3 V H D) (K : Keep h h' [a3]) (A : own_Arf Z h' a3 .int nw (fun j => .int (D' j))) : own_VS Z h' n0 o cap nw sz wc a1 a2 a3 V H D' := by
  obtain ⟨E, F1, F2, F3, F4, F5, AV, AH, AW, EV, ⟨q1, q2, q3, q4, q5, q6⟩, r⟩ := S
  exact ⟨E.keep K, F1.keep K (ninS q3 nin0), F2.keep K (ninS q3 nin0), F3.keep K (ninS q3 nin0), F4.keep K (ninS q3 nin0), F5.keep K (ninS q3 nin0), AV.keep K (ninS q5 nin0), AH.keep K (ninS q6 nin0), A, EV.keep K, ⟨q1, q2, q3, q4, q5, q6⟩, r⟩
end VS
set_option maxRecDepth 65536 in
set_option maxHeartbeats 40000000 in
theorem met1 (l : Launch) (Z : State) (a0 : Array Value) (hw : ∀ d ∈ tables_1, d.before a0 Z = true) (x0 : Addr) (x1 : Int32) (cap : Nat) (nw : Nat) (h0 : Heap) (n0 : Nat) (Z0 : n0 ≤ h0.size) (hc : x1.toInt = (cap : Int)) (hc2 : cap ≤ 200) (hnw : (((x1 + (64 : Int32)) - (1 : Int32)) / (64 : Int32)).toInt = (nw : Int)) (hnw4 : nw ≤ 4) (E : Exa Z h0 x0 "com/example/shardloom/shardloom/VertexSet") (Fs : Fld Z h0 x0 "com/example/shardloom/shardloom/VertexSet" "size" "I" (.int (0 : Int32))) (Fc : Fld Z h0 x0 "com/example/shardloom/shardloom/VertexSet" "wordCount" "I" (.int (0 : Int32))) (Fv : Fld Z h0 x0 "com/example/shardloom/shardloom/VertexSet" "vertices" "[I" .null) (Fh : Fld Z h0 x0 "com/example/shardloom/shardloom/VertexSet" "held" "[J" .null) (Fw : Fld Z h0 x0 "com/example/shardloom/shardloom/VertexSet" "words" "[I" .null) (go : n0 ≤ x0) :
    own_Met l Z (⟨"com/example/shardloom/shardloom/VertexSet", "<init>", "(I)V"⟩ : MethodName) prog_91_method_1_code 2 none { frames := 1, cells := 3, slots := 208, locals := 12 } #[(.ref x0), (.int x1)] h0 (fun v h L => v = none ∧ Fr n0 L ∧ n0 ≤ h.size ∧ ∃ a1 a2 a3, own_VS Z h n0 x0 cap nw 0 0 a1 a2 a3 (fun _ => 0) (fun _ => 0) (fun _ => 0)) := by
  refine own_met pn_1 ?_
  intro p e s m below meth c T0 X0 hx hby hml hown hZ e0 hret hlk hnm
  rw [ef_1 m x0 x1]
  have N0 := Fr.nil n0
  show own_Fin _ _ _ _ _ _ _ (T0.setTop (mkF m 0 #[.val (.ref x0), .val (.int x1)] []))
  refine own_of (fun _ kk => XS.aloadN X0.here hx rfl (hb hby d1_0) rfl rfl kk) ?_
  show own_Fin _ _ _ _ _ _ _ (T0.setTop (mkF m 1 #[.val (.ref x0), .val (.int x1)] [(.ref x0)]))
  refine own_initO X0 hx hZ hown (hw _ (List.mem_of_getElem? (i := 7) rfl)) (hw _ (List.mem_of_getElem? (i := 8) rfl)) (hw _ (List.mem_of_getElem? (i := 9) rfl)) e0 (by rw [hml]; rfl) (hb hby d1_1) (by decide) (W := 0) (Nat.le_of_eq rfl) (by decide) ?_
  intro T1 X1 e1
  show own_Fin _ _ _ _ _ _ _ (T1.setTop (mkF m 4 #[.val (.ref x0), .val (.int x1)] []))
  refine own_of (fun _ kk => XS.aloadN X1.here hx rfl (hb hby d1_4) rfl rfl kk) ?_
  show own_Fin _ _ _ _ _ _ _ (T1.setTop (mkF m 5 #[.val (.ref x0), .val (.int x1)] [(.ref x0)]))
  refine own_of (fun _ kk => XS.iloadN X1.here hx rfl (hb hby d1_5) rfl kk) ?_
  show own_Fin _ _ _ _ _ _ _ (T1.setTop (mkF m 6 #[.val (.ref x0), .val (.int x1)] [(.int x1), (.ref x0)]))
  refine own_newPE X1 hx hZ (hw _ (List.mem_of_getElem? (i := 10) rfl)) e1 (hb hby d1_6) (n := cap) hc (cap := 200) hc2 (by decide) (by decide) (by decide) (ad := "[I") (by decide) ?_
  intro T2 h2 b2 X2 e2 E2 g2 A2 B2
  have ne_x0_b2 : x0 ≠ b2 := Nat.ne_of_lt (by rw [g2]; exact E.lt)
  replace E := E.ext E2
  replace Fs := Fs.ext E2
  replace Fc := Fc.ext E2
  replace Fv := Fv.ext E2
  replace Fh := Fh.ext E2
  replace Fw := Fw.ext E2
  have Z2 : n0 ≤ h2.size := Nat.le_trans Z0 E2.1
  have ge_b2 : n0 ≤ b2 := by rw [g2]; exact Z0
  replace A2 : own_Arf Z h2 b2 .int cap (fun _ => (.int (0 : Int32))) := A2
  show own_Fin _ _ _ _ _ _ _ (T2.setTop (mkF m 8 #[.val (.ref x0), .val (.int x1)] [(.ref b2), (.ref x0)]))
  refine own_putF X2 hx hZ hown (hw _ (List.mem_of_getElem? (i := 11) rfl)) e2 Fv E (Or.inr ⟨(hw _ (List.mem_of_getElem? (i := 12) rfl)), rfl, hnm⟩) (hw _ (List.mem_of_getElem? (i := 2) rfl)) (ty := (.array .int)) (by decide) rfl rfl N0 go (hb hby d1_8) ?_
  intro T3 h3 l3 X3 N3 e3 W3
  have ZW3 : n0 ≤ h3.size := by rw [Wr.size W3]; exact Z2
  replace E := E.wr W3
  replace Fs := Fs.other W3 (Or.inr (slot_ne (Or.inl (hw _ (List.mem_of_getElem? (i := 26) rfl))) (Or.inr (hw _ (List.mem_of_getElem? (i := 12) rfl))) (by decide) (t := .int) (t' := (.array .int)) (by decide) (by decide)))
  replace Fc := Fc.other W3 (Or.inr (slot_ne (Or.inl (hw _ (List.mem_of_getElem? (i := 24) rfl))) (Or.inr (hw _ (List.mem_of_getElem? (i := 12) rfl))) (by decide) (t := .int) (t' := (.array .int)) (by decide) (by decide)))
  replace Fv := Fv.same W3
  replace Fh := Fh.other W3 (Or.inr (slot_ne (Or.inr (hw _ (List.mem_of_getElem? (i := 15) rfl))) (Or.inr (hw _ (List.mem_of_getElem? (i := 12) rfl))) (by decide) (t := (.array .long)) (t' := (.array .int)) (by decide) (by decide)))
  replace Fw := Fw.other W3 (Or.inr (slot_ne (Or.inr (hw _ (List.mem_of_getElem? (i := 17) rfl))) (Or.inr (hw _ (List.mem_of_getElem? (i := 12) rfl))) (by decide) (t := (.array .int)) (t' := (.array .int)) (by decide) (by decide)))
  replace A2 := A2.other W3 (Ne.symm ne_x0_b2)
  replace B2 := B2.wr W3
  show own_Fin _ _ _ _ _ _ _ (T3.setTop (mkF m 11 #[.val (.ref x0), .val (.int x1)] []))
  refine own_of (fun _ kk => XS.aloadN X3.here hx rfl (hb hby d1_11) rfl rfl kk) ?_
  show own_Fin _ _ _ _ _ _ _ (T3.setTop (mkF m 12 #[.val (.ref x0), .val (.int x1)] [(.ref x0)]))
  refine own_of (fun _ kk => XS.iloadN X3.here hx rfl (hb hby d1_12) rfl kk) ?_
  show own_Fin _ _ _ _ _ _ _ (T3.setTop (mkF m 13 #[.val (.ref x0), .val (.int x1)] [(.int x1), (.ref x0)]))
  refine own_of (fun _ kk => XS.bipush X3.here hx rfl (hb hby d1_13) kk) ?_
  show own_Fin _ _ _ _ _ _ _ (T3.setTop (mkF m 15 #[.val (.ref x0), .val (.int x1)] [(.int (64 : Int32)), (.int x1), (.ref x0)]))
  refine own_of (fun _ kk => XS.iadd X3.here hx rfl (hb hby d1_15) rfl kk) ?_
  show own_Fin _ _ _ _ _ _ _ (T3.setTop (mkF m 16 #[.val (.ref x0), .val (.int x1)] [(.int (x1 + (64 : Int32))), (.ref x0)]))
  refine own_of (fun _ kk => XS.iconst X3.here hx rfl (hb hby d1_16) kk) ?_
  show own_Fin _ _ _ _ _ _ _ (T3.setTop (mkF m 17 #[.val (.ref x0), .val (.int x1)] [(.int (1 : Int32)), (.int (x1 + (64 : Int32))), (.ref x0)]))
  refine own_of (fun _ kk => XS.isub X3.here hx rfl (hb hby d1_17) rfl kk) ?_
  show own_Fin _ _ _ _ _ _ _ (T3.setTop (mkF m 18 #[.val (.ref x0), .val (.int x1)] [(.int ((x1 + (64 : Int32)) - (1 : Int32))), (.ref x0)]))
  refine own_of (fun _ kk => XS.bipush X3.here hx rfl (hb hby d1_18) kk) ?_
  show own_Fin _ _ _ _ _ _ _ (T3.setTop (mkF m 20 #[.val (.ref x0), .val (.int x1)] [(.int (64 : Int32)), (.int ((x1 + (64 : Int32)) - (1 : Int32))), (.ref x0)]))
  refine own_of (fun _ kk => XS.idiv X3.here hx rfl (hb hby d1_20) rfl (by decide) kk) ?_
  show own_Fin _ _ _ _ _ _ _ (T3.setTop (mkF m 21 #[.val (.ref x0), .val (.int x1)] [(.int (((x1 + (64 : Int32)) - (1 : Int32)) / (64 : Int32))), (.ref x0)]))
  refine own_newP X3 hx hZ (hw _ (List.mem_of_getElem? (i := 13) rfl)) e3 (hb hby d1_21) (n := nw) hnw (cap := 4) hnw4 (by decide) (by decide) (by decide) ?_
  intro T4 h4 b4 X4 e4 E4 g4 A4
  have ne_x0_b4 : x0 ≠ b4 := Nat.ne_of_lt (by rw [g4]; exact E.lt)
  have ne_b2_b4 : b2 ≠ b4 := Nat.ne_of_lt (by rw [g4]; exact A2.lt)
  replace E := E.ext E4
  replace Fs := Fs.ext E4
  replace Fc := Fc.ext E4
  replace Fv := Fv.ext E4
  replace Fh := Fh.ext E4
  replace Fw := Fw.ext E4
  replace A2 := A2.ext E4
  replace B2 := B2.ext E4
  have Z4 : n0 ≤ h4.size := Nat.le_trans ZW3 E4.1
  have ge_b4 : n0 ≤ b4 := by rw [g4]; exact ZW3
  replace A4 : own_Arf Z h4 b4 .long nw (fun _ => (.long (0 : Int64))) := A4
  show own_Fin _ _ _ _ _ _ _ (T4.setTop (mkF m 23 #[.val (.ref x0), .val (.int x1)] [(.ref b4), (.ref x0)]))
  refine own_putF X4 hx hZ hown (hw _ (List.mem_of_getElem? (i := 14) rfl)) e4 Fh E (Or.inr ⟨(hw _ (List.mem_of_getElem? (i := 15) rfl)), rfl, hnm⟩) (hw _ (List.mem_of_getElem? (i := 2) rfl)) (ty := (.array .long)) (by decide) rfl rfl N3 go (hb hby d1_23) ?_
  intro T5 h5 l5 X5 N5 e5 W5
  have ZW5 : n0 ≤ h5.size := by rw [Wr.size W5]; exact Z4
  replace E := E.wr W5
  replace Fs := Fs.other W5 (Or.inr (slot_ne (Or.inl (hw _ (List.mem_of_getElem? (i := 26) rfl))) (Or.inr (hw _ (List.mem_of_getElem? (i := 15) rfl))) (by decide) (t := .int) (t' := (.array .long)) (by decide) (by decide)))
  replace Fc := Fc.other W5 (Or.inr (slot_ne (Or.inl (hw _ (List.mem_of_getElem? (i := 24) rfl))) (Or.inr (hw _ (List.mem_of_getElem? (i := 15) rfl))) (by decide) (t := .int) (t' := (.array .long)) (by decide) (by decide)))
  replace Fv := Fv.other W5 (Or.inr (slot_ne (Or.inr (hw _ (List.mem_of_getElem? (i := 12) rfl))) (Or.inr (hw _ (List.mem_of_getElem? (i := 15) rfl))) (by decide) (t := (.array .int)) (t' := (.array .long)) (by decide) (by decide)))
  replace Fh := Fh.same W5
  replace Fw := Fw.other W5 (Or.inr (slot_ne (Or.inr (hw _ (List.mem_of_getElem? (i := 17) rfl))) (Or.inr (hw _ (List.mem_of_getElem? (i := 15) rfl))) (by decide) (t := (.array .int)) (t' := (.array .long)) (by decide) (by decide)))
  replace A2 := A2.other W5 (Ne.symm ne_x0_b2)
  replace B2 := B2.wr W5
  replace A4 := A4.other W5 (Ne.symm ne_x0_b4)
  show own_Fin _ _ _ _ _ _ _ (T5.setTop (mkF m 26 #[.val (.ref x0), .val (.int x1)] []))
  refine own_of (fun _ kk => XS.aloadN X5.here hx rfl (hb hby d1_26) rfl rfl kk) ?_
  show own_Fin _ _ _ _ _ _ _ (T5.setTop (mkF m 27 #[.val (.ref x0), .val (.int x1)] [(.ref x0)]))
  refine own_of (fun _ kk => XS.aloadN X5.here hx rfl (hb hby d1_27) rfl rfl kk) ?_
  show own_Fin _ _ _ _ _ _ _ (T5.setTop (mkF m 28 #[.val (.ref x0), .val (.int x1)] [(.ref x0), (.ref x0)]))
  refine own_getF X5 hx hZ hown (hw _ (List.mem_of_getElem? (i := 14) rfl)) e5 Fh (hb hby d1_28) ?_
  intro T6 X6 e6
  show own_Fin _ _ _ _ _ _ _ (T6.setTop (mkF m 31 #[.val (.ref x0), .val (.int x1)] [(.ref b4), (.ref x0)]))
  refine own_arraylength X6 hx hZ e6 A4 (z := (((x1 + (64 : Int32)) - (1 : Int32)) / (64 : Int32))) hnw (hb hby d1_31) ?_
  show own_Fin _ _ _ _ _ _ _ (T6.setTop (mkF m 32 #[.val (.ref x0), .val (.int x1)] [(.int (((x1 + (64 : Int32)) - (1 : Int32)) / (64 : Int32))), (.ref x0)]))
  refine own_newP X6 hx hZ (hw _ (List.mem_of_getElem? (i := 10) rfl)) e6 (hb hby d1_32) (n := nw) hnw (cap := 4) hnw4 (by decide) (by decide) (by decide) ?_
  intro T7 h7 b7 X7 e7 E7 g7 A7
  have ne_x0_b7 : x0 ≠ b7 := Nat.ne_of_lt (by rw [g7]; exact E.lt)
  have ne_b2_b7 : b2 ≠ b7 := Nat.ne_of_lt (by rw [g7]; exact A2.lt)
  have ne_b4_b7 : b4 ≠ b7 := Nat.ne_of_lt (by rw [g7]; exact A4.lt)
  replace E := E.ext E7
  replace Fs := Fs.ext E7
  replace Fc := Fc.ext E7
  replace Fv := Fv.ext E7
  replace Fh := Fh.ext E7
  replace Fw := Fw.ext E7
  replace A2 := A2.ext E7
  replace B2 := B2.ext E7
  replace A4 := A4.ext E7
  have Z7 : n0 ≤ h7.size := Nat.le_trans ZW5 E7.1
  have ge_b7 : n0 ≤ b7 := by rw [g7]; exact ZW5
  replace A7 : own_Arf Z h7 b7 .int nw (fun _ => (.int (0 : Int32))) := A7
  show own_Fin _ _ _ _ _ _ _ (T7.setTop (mkF m 34 #[.val (.ref x0), .val (.int x1)] [(.ref b7), (.ref x0)]))
  refine own_putF X7 hx hZ hown (hw _ (List.mem_of_getElem? (i := 16) rfl)) e7 Fw E (Or.inr ⟨(hw _ (List.mem_of_getElem? (i := 17) rfl)), rfl, hnm⟩) (hw _ (List.mem_of_getElem? (i := 2) rfl)) (ty := (.array .int)) (by decide) rfl rfl N5 go (hb hby d1_34) ?_
  intro T8 h8 l8 X8 N8 e8 W8
  have ZW8 : n0 ≤ h8.size := by rw [Wr.size W8]; exact Z7
  replace E := E.wr W8
  replace Fs := Fs.other W8 (Or.inr (slot_ne (Or.inl (hw _ (List.mem_of_getElem? (i := 26) rfl))) (Or.inr (hw _ (List.mem_of_getElem? (i := 17) rfl))) (by decide) (t := .int) (t' := (.array .int)) (by decide) (by decide)))
  replace Fc := Fc.other W8 (Or.inr (slot_ne (Or.inl (hw _ (List.mem_of_getElem? (i := 24) rfl))) (Or.inr (hw _ (List.mem_of_getElem? (i := 17) rfl))) (by decide) (t := .int) (t' := (.array .int)) (by decide) (by decide)))
  replace Fv := Fv.other W8 (Or.inr (slot_ne (Or.inr (hw _ (List.mem_of_getElem? (i := 12) rfl))) (Or.inr (hw _ (List.mem_of_getElem? (i := 17) rfl))) (by decide) (t := (.array .int)) (t' := (.array .int)) (by decide) (by decide)))
  replace Fh := Fh.other W8 (Or.inr (slot_ne (Or.inr (hw _ (List.mem_of_getElem? (i := 15) rfl))) (Or.inr (hw _ (List.mem_of_getElem? (i := 17) rfl))) (by decide) (t := (.array .long)) (t' := (.array .int)) (by decide) (by decide)))
  replace Fw := Fw.same W8
  replace A2 := A2.other W8 (Ne.symm ne_x0_b2)
  replace B2 := B2.wr W8
  replace A4 := A4.other W8 (Ne.symm ne_x0_b4)
  replace A7 := A7.other W8 (Ne.symm ne_x0_b7)
  show own_Fin _ _ _ _ _ _ _ (T8.setTop (mkF m 37 #[.val (.ref x0), .val (.int x1)] []))
  exact own_retV X8 hx hlk e8 hret (hb hby d1_37) (by decide) (by decide) ⟨rfl, N8, ZW8, b2, b4, b7, E, Fs, Fc, Fv, Fh, Fw, A2, A4, A7, B2, ⟨ne_x0_b2, ne_x0_b4, ne_x0_b7, ne_b2_b4, ne_b2_b7, ne_b4_b7⟩, go, ge_b2, ge_b4, ge_b7⟩
def own_Inv (cap nw n m : Nat) (e d : Nat → Nat) (V D : Nat → Int32) (H : Nat → Int64) : Prop :=
  (∀ t, t < n → (V t).toInt = (e t : Int) ∧ e t < cap) ∧ (∀ t u, t < n → u < n → e t = e u → t = u) ∧ (∀ i, i < m → (D i).toInt = (d i : Int) ∧ d i < nw) ∧ (∀ i j, i < m → j < m → d i = d j → i = j) ∧
  (∀ w, w < nw → ∀ p, p < 64 → (own_bit (H w) p = true ↔ ∃ t, t < n ∧ e t = 64 * w + p)) ∧ (∀ w, (∃ i, i < m ∧ d i = w) ↔ ∃ t, t < n ∧ e t / 64 = w) ∧ m ≤ n ∧ cap ≤ 64 * nw
def own_upd {α : Type} (f : Nat → α) (n : Nat) (v : α) (j : Nat) : α := if j = n then v else f j
theorem own_natOf (x : Int32) (k : Nat) (h : x.toInt = (k : Int)) : x.toBitVec.toNat = k := by
  have h1 : x.toBitVec.toInt = (k : Int) := h
  have h2 := x.toBitVec.isLt
  rw [BitVec.toInt_eq_toNat_cond] at h1
  split at h1 <;> omega
theorem own_one_bit (x1 : Int32) (x : Nat) (hx : x1.toInt = (x : Int)) (q : Nat) (hq : q < 64) : own_bit (own_lshl (1 : Int64) x1) q = decide (q = x % 64) := by
  have e : (own_lshl (1 : Int64) x1).toBitVec = (1#64) <<< (x % 64) := by
    show (1 : Int64).toBitVec <<< ((x1 &&& 0x3f).toInt64.toBitVec.smod 64) = _
    rw [BitVec.shiftLeft_eq', (sm64 x1 (x % 64) (by rw [own_natOf x1 x hx])).1, smod64 _ (Nat.mod_lt _ (by decide))]; rfl
  show ((own_lshl (1 : Int64) x1).toBitVec).getLsbD q = _
  rw [e, BitVec.getLsbD_shiftLeft, BitVec.getLsbD_one]
  by_cases h1 : q < x % 64
  · have : ¬ q = x % 64 := by omega
    simp [h1, this]
  · by_cases h2 : q = x % 64
    · simp [h2, hq]; omega
    · have : ¬ q - x % 64 = 0 := by omega
      simp [h2, this]
theorem own_z64 (x : Int64) : x = 0 ↔ ∀ q, q < 64 → own_bit x q = false := by
  constructor
  · intro h q _; subst h; show (0#64).getLsbD q = false; simp
  · intro h
    apply Int64.toBitVec_inj.mp
    apply BitVec.eq_of_getLsbD_eq
    intro i hi
    rw [show x.toBitVec.getLsbD i = false from h i hi]
    show false = (0#64).getLsbD i
    simp
theorem own_and_bit (x y : Int64) (q : Nat) : own_bit (x &&& y) q = (own_bit x q && own_bit y q) := by show (x.toBitVec &&& y.toBitVec).getLsbD q = _; rw [BitVec.getLsbD_and]; rfl
theorem own_or_bit (x y : Int64) (q : Nat) : own_bit (x ||| y) q = (own_bit x q || own_bit y q) := by show (x.toBitVec ||| y.toBitVec).getLsbD q = _; rw [BitVec.getLsbD_or]; rfl
theorem own_test (x : Int64) (x1 : Int32) (k : Nat) (hx : x1.toInt = (k : Int)) : (x &&& own_lshl (1 : Int64) x1) = 0 ↔ own_bit x (k % 64) = false := by
  rw [own_z64]
  constructor
  · intro h
    have := h (k % 64) (Nat.mod_lt _ (by decide))
    rw [own_and_bit, own_one_bit x1 k hx _ (Nat.mod_lt _ (by decide))] at this
    simpa using this
  · intro h q hq
    rw [own_and_bit, own_one_bit x1 k hx q hq]
    by_cases e : q = k % 64
    · rw [e, h]; rfl
    · simp [e]
section Inv
variable {cap nw n m : Nat} {e d : Nat → Nat} {V D : Nat → Int32} {H : Nat → Int64}
theorem own_Inv.old (I : own_Inv cap nw n m e d V D H) {x1 : Int32} {x : Nat} (hx : x1.toInt = (x : Int)) (hxc : x < cap) (hP : ¬ (H (x / 64) &&& own_lshl (1 : Int64) x1) = 0) : ∃ t, t < n ∧ e t = x := by
  obtain ⟨i1, i2, i3, i4, i5, i6, i7, i8⟩ := I
  rw [own_test _ x1 x hx] at hP
  obtain ⟨t, h1, h2⟩ := (i5 (x / 64) (by omega) (x % 64) (Nat.mod_lt _ (by decide))).mp (by simpa using hP)
  exact ⟨t, h1, by omega⟩
theorem own_Inv.no (I : own_Inv cap nw n m e d V D H) {x1 : Int32} {x : Nat} (hx : x1.toInt = (x : Int)) (hxc : x < cap) (hP : (H (x / 64) &&& own_lshl (1 : Int64) x1) = 0) : ∀ t, t < n → ¬ e t = x := by
  obtain ⟨i1, i2, i3, i4, i5, i6, i7, i8⟩ := I
  rw [own_test _ x1 x hx] at hP
  intro t ht he
  have := (i5 (x / 64) (by omega) (x % 64) (Nat.mod_lt _ (by decide))).mpr ⟨t, ht, by omega⟩
  rw [hP] at this; cases this
theorem own_Inv.room (I : own_Inv cap nw n m e d V D H) {x : Nat} (hxc : x < cap) (hn : n ≤ 2) (h : ∀ t, t < n → ¬ e t = x) : n < cap := by
  obtain ⟨i1, i2, -⟩ := I
  obtain rfl | rfl | rfl : n = 0 ∨ n = 1 ∨ n = 2 := by omega
  · omega
  · have := (i1 0 (by decide)).2; have := h 0 (by decide); omega
  · have := (i1 0 (by decide)).2; have := h 0 (by decide); have := (i1 1 (by decide)).2; have := h 1 (by decide)
    have : ¬ e 0 = e 1 := fun q => absurd (i2 0 1 (by decide) (by decide) q) (by decide)
    omega
theorem own_Inv.nw0 (I : own_Inv cap nw n m e d V D H) {w : Nat} (hw : w < nw) (hz : H w = 0) : ∀ i, i < m → ¬ d i = w := by
  obtain ⟨i1, i2, i3, i4, i5, i6, i7, i8⟩ := I
  intro i hi he
  obtain ⟨t, h1, h2⟩ := (i6 w).mp ⟨i, hi, he⟩
  have := (i5 w hw (e t % 64) (Nat.mod_lt _ (by decide))).mpr ⟨t, h1, by omega⟩
  rw [(own_z64 (H w)).mp hz _ (Nat.mod_lt _ (by decide))] at this; cases this
theorem own_Inv.roomW (I : own_Inv cap nw n m e d V D H) {w : Nat} (hw : w < nw) (hn : n ≤ 2) (hz : H w = 0) : m < nw := by
  have h := I.nw0 hw hz
  obtain ⟨i1, i2, i3, i4, i5, i6, i7, i8⟩ := I
  obtain rfl | rfl | rfl : m = 0 ∨ m = 1 ∨ m = 2 := by omega
  · omega
  · have := (i3 0 (by decide)).2; have := h 0 (by decide); omega
  · have := (i3 0 (by decide)).2; have := h 0 (by decide); have := (i3 1 (by decide)).2; have := h 1 (by decide)
    have : ¬ d 0 = d 1 := fun q => absurd (i4 0 1 (by decide) (by decide) q) (by decide)
    omega
theorem own_Inv.bits (I : own_Inv cap nw n m e d V D H) {x1 : Int32} {x : Nat} (hx : x1.toInt = (x : Int)) (hxc : x < cap) : ∀ w, w < nw → ∀ p, p < 64 → (own_bit (own_upd H (x / 64) (H (x / 64) ||| own_lshl (1 : Int64) x1) w) p = true ↔ ∃ t, t < n + 1 ∧ own_upd e n x t = 64 * w + p) := by
  obtain ⟨i1, i2, i3, i4, i5, i6, i7, i8⟩ := I
  intro w hw p hp
  have key : (∃ t, t < n + 1 ∧ own_upd e n x t = 64 * w + p) ↔ ((∃ t, t < n ∧ e t = 64 * w + p) ∨ x = 64 * w + p) := by
    constructor
    · rintro ⟨t, h1, h2⟩
      unfold own_upd at h2
      by_cases q : t = n
      · rw [if_pos q] at h2; exact Or.inr h2
      · rw [if_neg q] at h2; exact Or.inl ⟨t, by omega, h2⟩
    · rintro (⟨t, h1, h2⟩ | h)
      · exact ⟨t, by omega, by unfold own_upd; rw [if_neg (by omega)]; exact h2⟩
      · exact ⟨n, by omega, by unfold own_upd; rw [if_pos rfl]; exact h⟩
  rw [key, ← i5 w hw p hp]
  unfold own_upd
  by_cases q : w = x / 64
  · subst q
    rw [if_pos rfl, own_or_bit, own_one_bit x1 x hx p hp, Bool.or_eq_true, decide_eq_true_eq]
    exact or_congr Iff.rfl ⟨fun h => by omega, fun h => by omega⟩
  · rw [if_neg q]
    exact ⟨fun h => Or.inl h, fun h => h.elim (fun z => z) (fun z => absurd z (by omega))⟩
theorem own_Inv.ev (I : own_Inv cap nw n m e d V D H) {x1 : Int32} {x : Nat} (hx : x1.toInt = (x : Int)) (hxc : x < cap) (hno : ∀ t, t < n → ¬ e t = x) : (∀ t, t < n + 1 → (own_upd V n x1 t).toInt = ((own_upd e n x t : Nat) : Int) ∧ own_upd e n x t < cap) ∧ (∀ t u, t < n + 1 → u < n + 1 → own_upd e n x t = own_upd e n x u → t = u) := by
  obtain ⟨i1, i2, -⟩ := I
  refine ⟨fun t ht => ?_, fun t u ht hu h => ?_⟩
  · unfold own_upd
    by_cases q : t = n
    · rw [if_pos q, if_pos q]; exact ⟨hx, hxc⟩
    · rw [if_neg q, if_neg q]; exact i1 t (by omega)
  · unfold own_upd at h
    by_cases q : t = n <;> by_cases r : u = n
    · omega
    · rw [if_pos q, if_neg r] at h; exact absurd h.symm (hno u (by omega))
    · rw [if_neg q, if_pos r] at h; exact absurd h (hno t (by omega))
    · rw [if_neg q, if_neg r] at h; exact i2 t u (by omega) (by omega) h
theorem own_Inv.new1 (I : own_Inv cap nw n m e d V D H) {x1 : Int32} {x : Nat} (hx : x1.toInt = (x : Int)) (hxc : x < cap) (hP : (H (x / 64) &&& own_lshl (1 : Int64) x1) = 0) (hz : ¬ H (x / 64) = 0) : own_Inv cap nw (n + 1) m (own_upd e n x) d (own_upd V n x1) D (own_upd H (x / 64) (H (x / 64) ||| own_lshl (1 : Int64) x1)) := by
  have hno := I.no hx hxc hP
  have hb := I.bits hx hxc
  have hev := I.ev hx hxc hno
  obtain ⟨i1, i2, i3, i4, i5, i6, i7, i8⟩ := I
  refine ⟨hev.1, hev.2, i3, i4, hb, fun w => ?_, by omega, i8⟩
  rw [i6 w]
  constructor
  · rintro ⟨t, h1, h2⟩; exact ⟨t, by omega, by unfold own_upd; rw [if_neg (by omega)]; exact h2⟩
  · rintro ⟨t, h1, h2⟩
    unfold own_upd at h2
    by_cases q : t = n
    · rw [if_pos q] at h2
      rw [own_z64] at hz
      have : ∃ p, p < 64 ∧ own_bit (H (x / 64)) p = true := by
        apply Classical.byContradiction
        intro hc
        exact hz fun p hp => by
          cases hq : own_bit (H (x / 64)) p
          · rfl
          · exact absurd ⟨p, hp, hq⟩ hc
      obtain ⟨p, hp, hq⟩ := this
      obtain ⟨u, hu1, hu2⟩ := (i5 (x / 64) (by omega) p hp).mp hq
      exact ⟨u, hu1, by omega⟩
    · rw [if_neg q] at h2; exact ⟨t, by omega, h2⟩
theorem own_Inv.new2 (I : own_Inv cap nw n m e d V D H) {x1 w1 : Int32} {x : Nat} (hx : x1.toInt = (x : Int)) (hw1 : w1.toInt = ((x / 64 : Nat) : Int)) (hxc : x < cap) (hP : (H (x / 64) &&& own_lshl (1 : Int64) x1) = 0) (hz : H (x / 64) = 0) : own_Inv cap nw (n + 1) (m + 1) (own_upd e n x) (own_upd d m (x / 64)) (own_upd V n x1) (own_upd D m w1) (own_upd H (x / 64) (H (x / 64) ||| own_lshl (1 : Int64) x1)) := by
  have hno := I.no hx hxc hP
  have hb := I.bits hx hxc
  have hev := I.ev hx hxc hno
  have hw0 := I.nw0 (w := x / 64) (by have := I.2.2.2.2.2.2.2; omega) hz
  obtain ⟨i1, i2, i3, i4, i5, i6, i7, i8⟩ := I
  refine ⟨hev.1, hev.2, fun i hi => ?_, fun i j hi hj h => ?_, hb, fun w => ?_, by omega, i8⟩
  · unfold own_upd
    by_cases q : i = m
    · rw [if_pos q, if_pos q]; exact ⟨hw1, by omega⟩
    · rw [if_neg q, if_neg q]; exact i3 i (by omega)
  · unfold own_upd at h
    by_cases q : i = m <;> by_cases r : j = m
    · omega
    · rw [if_pos q, if_neg r] at h; exact absurd h.symm (hw0 j (by omega))
    · rw [if_neg q, if_pos r] at h; exact absurd h (hw0 i (by omega))
    · rw [if_neg q, if_neg r] at h; exact i4 i j (by omega) (by omega) h
  · constructor
    · rintro ⟨i, h1, h2⟩
      unfold own_upd at h2
      by_cases q : i = m
      · rw [if_pos q] at h2; exact ⟨n, by omega, by unfold own_upd; rw [if_pos rfl]; exact h2⟩
      · rw [if_neg q] at h2
        obtain ⟨t, g1, g2⟩ := (i6 w).mp ⟨i, by omega, h2⟩
        exact ⟨t, by omega, by unfold own_upd; rw [if_neg (by omega)]; exact g2⟩
    · rintro ⟨t, h1, h2⟩
      unfold own_upd at h2
      by_cases q : t = n
      · rw [if_pos q] at h2; exact ⟨m, by omega, by unfold own_upd; rw [if_pos rfl]; exact h2⟩
      · rw [if_neg q] at h2
        obtain ⟨i, g1, g2⟩ := (i6 w).mpr ⟨t, by omega, h2⟩
        exact ⟨i, by omega, by unfold own_upd; rw [if_neg (by omega)]; exact g2⟩
end Inv
def own_Ext (e : Nat → Nat) (n x : Nat) (e' : Nat → Nat) (n' : Nat) : Prop := ((∃ t, t < n ∧ e t = x) ∧ n' = n ∧ e' = e) ∨ ((∀ t, t < n → ¬ e t = x) ∧ n' = n + 1 ∧ e' = own_upd e n x)
theorem own_p1 {p : Int32} {k : Nat} (hp : p.toInt = (k : Int)) (h : k < 1000) : (p + 1).toInt = ((k + 1 : Nat) : Int) := by
  have h1 := c_iadd p 1
  have h2 := rng32 (p + 1)
  have k : (1 : Int32).toInt = 1 := by decide
  omega
theorem own_div64 {x1 : Int32} {x : Nat} (hx : x1.toInt = (x : Int)) : (x1 / (64 : Int32)).toInt = ((x / 64 : Nat) : Int) := by
  have := (c_idiv x1 64 64 (by decide) (by decide)).1 (by omega)
  omega
set_option maxRecDepth 65536 in
set_option maxHeartbeats 40000000 in
theorem met3 (l : Launch) (Z : State) (a0 : Array Value) (hw : ∀ d ∈ tables_1, d.before a0 Z = true) (x0 : Addr) (x1 : Int32) (cap : Nat) (nw : Nat) (sz : Int32) (wc : Int32) (a1 : Addr) (a2 : Addr) (a3 : Addr) (V : Nat → Int32) (H : Nat → Int64) (D : Nat → Int32) (kn : Nat) (km : Nat) (ee : Nat → Nat) (dd : Nat → Nat) (xx : Nat) (h0 : Heap) (n0 : Nat) (Z0 : n0 ≤ h0.size) (O : own_VS Z h0 n0 x0 cap nw sz wc a1 a2 a3 V H D) (hsz : sz.toInt = (kn : Int)) (hwc : wc.toInt = (km : Int)) (I : own_Inv cap nw kn km ee dd V D H) (hn : kn ≤ 2) (hx1 : x1.toInt = (xx : Int)) (hxc : xx < cap) :
    own_Met l Z (⟨"com/example/shardloom/shardloom/VertexSet", "add", "(I)V"⟩ : MethodName) prog_91_method_2_code 5 none { frames := 0, cells := 0, slots := 0, locals := 0 } #[(.ref x0), (.int x1)] h0 (fun v h L => v = none ∧ Fr n0 L ∧ n0 ≤ h.size ∧ ∃ (sz' wc' : Int32) (V' : Nat → Int32) (H' : Nat → Int64) (D' : Nat → Int32) (n' m' : Nat) (e' d' : Nat → Nat), own_VS Z h n0 x0 cap nw sz' wc' a1 a2 a3 V' H' D' ∧ sz'.toInt = (n' : Int) ∧ wc'.toInt = (m' : Int) ∧ own_Inv cap nw n' m' e' d' V' D' H' ∧ own_Ext ee kn xx e' n') := by
  refine own_met pn_3 ?_
  intro p e s m below meth c T0 X0 hx hby hml hown hZ e0 hret hlk hnm
  rw [ef_3 m x0 x1]
  have N0 := Fr.nil n0
  obtain ⟨E, Fs, Fc, Fv, Fh, Fw, AV, AH, AW, EV, ⟨ne1, ne2, ne3, ne4, ne5, ne6⟩, go, ga1, ga2, ga3⟩ := O
  show own_Fin _ _ _ _ _ _ _ (T0.setTop (mkF m 0 #[.val (.ref x0), .val (.int x1), .unset, .unset, .unset] []))
  refine own_of (fun _ kk => XS.iloadN X0.here hx rfl (hb hby d3_0) rfl kk) ?_
  show own_Fin _ _ _ _ _ _ _ (T0.setTop (mkF m 1 #[.val (.ref x0), .val (.int x1), .unset, .unset, .unset] [(.int x1)]))
  refine own_of (fun _ kk => XS.bipush X0.here hx rfl (hb hby d3_1) kk) ?_
  show own_Fin _ _ _ _ _ _ _ (T0.setTop (mkF m 3 #[.val (.ref x0), .val (.int x1), .unset, .unset, .unset] [(.int (64 : Int32)), (.int x1)]))
  refine own_of (fun _ kk => XS.idiv X0.here hx rfl (hb hby d3_3) rfl (by decide) kk) ?_
  show own_Fin _ _ _ _ _ _ _ (T0.setTop (mkF m 4 #[.val (.ref x0), .val (.int x1), .unset, .unset, .unset] [(.int (x1 / (64 : Int32)))]))
  refine own_of (fun _ kk => XS.istoreN X0.here hx rfl (hb hby d3_4) rfl (l' := #[.val (.ref x0), .val (.int x1), .val (.int (x1 / (64 : Int32))), .unset, .unset]) rfl kk) ?_
  show own_Fin _ _ _ _ _ _ _ (T0.setTop (mkF m 5 #[.val (.ref x0), .val (.int x1), .val (.int (x1 / (64 : Int32))), .unset, .unset] []))
  refine own_of (fun _ kk => XS.lconst X0.here hx rfl (hb hby d3_5) kk) ?_
  show own_Fin _ _ _ _ _ _ _ (T0.setTop (mkF m 6 #[.val (.ref x0), .val (.int x1), .val (.int (x1 / (64 : Int32))), .unset, .unset] [(.long (1 : Int64))]))
  refine own_of (fun _ kk => XS.iloadN X0.here hx rfl (hb hby d3_6) rfl kk) ?_
  show own_Fin _ _ _ _ _ _ _ (T0.setTop (mkF m 7 #[.val (.ref x0), .val (.int x1), .val (.int (x1 / (64 : Int32))), .unset, .unset] [(.int x1), (.long (1 : Int64))]))
  refine own_of (fun _ kk => XS.lshl X0.here hx rfl (hb hby d3_7) rfl kk) ?_
  show own_Fin _ _ _ _ _ _ _ (T0.setTop (mkF m 8 #[.val (.ref x0), .val (.int x1), .val (.int (x1 / (64 : Int32))), .unset, .unset] [(.long (own_lshl (1 : Int64) x1))]))
  refine own_of (fun _ kk => XS.lstoreN X0.here hx rfl (hb hby d3_8) rfl (l' := #[.val (.ref x0), .val (.int x1), .val (.int (x1 / (64 : Int32))), .val (.long (own_lshl (1 : Int64) x1)), .second]) rfl kk) ?_
  show own_Fin _ _ _ _ _ _ _ (T0.setTop (mkF m 9 #[.val (.ref x0), .val (.int x1), .val (.int (x1 / (64 : Int32))), .val (.long (own_lshl (1 : Int64) x1)), .second] []))
  refine own_of (fun _ kk => XS.aloadN X0.here hx rfl (hb hby d3_9) rfl rfl kk) ?_
  show own_Fin _ _ _ _ _ _ _ (T0.setTop (mkF m 10 #[.val (.ref x0), .val (.int x1), .val (.int (x1 / (64 : Int32))), .val (.long (own_lshl (1 : Int64) x1)), .second] [(.ref x0)]))
  refine own_getF X0 hx hZ hown (hw _ (List.mem_of_getElem? (i := 14) rfl)) e0 Fh (hb hby d3_10) ?_
  intro T1 X1 e1
  show own_Fin _ _ _ _ _ _ _ (T1.setTop (mkF m 13 #[.val (.ref x0), .val (.int x1), .val (.int (x1 / (64 : Int32))), .val (.long (own_lshl (1 : Int64) x1)), .second] [(.ref a2)]))
  refine own_of (fun _ kk => XS.iloadN X1.here hx rfl (hb hby d3_13) rfl kk) ?_
  show own_Fin _ _ _ _ _ _ _ (T1.setTop (mkF m 14 #[.val (.ref x0), .val (.int x1), .val (.int (x1 / (64 : Int32))), .val (.long (own_lshl (1 : Int64) x1)), .second] [(.int (x1 / (64 : Int32))), (.ref a2)]))
  refine own_laload X1 hx hZ e1 AH (i := (xx / 64)) (own_div64 hx1) (by have := I.2.2.2.2.2.2.2; omega) (v := (.long (H (xx / 64)))) rfl (hb hby d3_14) ?_
  show own_Fin _ _ _ _ _ _ _ (T1.setTop (mkF m 15 #[.val (.ref x0), .val (.int x1), .val (.int (x1 / (64 : Int32))), .val (.long (own_lshl (1 : Int64) x1)), .second] [(.long (H (xx / 64)))]))
  refine own_of (fun _ kk => XS.lloadN X1.here hx rfl (hb hby d3_15) rfl kk) ?_
  show own_Fin _ _ _ _ _ _ _ (T1.setTop (mkF m 16 #[.val (.ref x0), .val (.int x1), .val (.int (x1 / (64 : Int32))), .val (.long (own_lshl (1 : Int64) x1)), .second] [(.long (own_lshl (1 : Int64) x1)), (.long (H (xx / 64)))]))
  refine own_of (fun _ kk => XS.land X1.here hx rfl (hb hby d3_16) rfl kk) ?_
  show own_Fin _ _ _ _ _ _ _ (T1.setTop (mkF m 17 #[.val (.ref x0), .val (.int x1), .val (.int (x1 / (64 : Int32))), .val (.long (own_lshl (1 : Int64) x1)), .second] [(.long ((H (xx / 64)) &&& (own_lshl (1 : Int64) x1)))]))
  refine own_of (fun _ kk => XS.lconst X1.here hx rfl (hb hby d3_17) kk) ?_
  show own_Fin _ _ _ _ _ _ _ (T1.setTop (mkF m 18 #[.val (.ref x0), .val (.int x1), .val (.int (x1 / (64 : Int32))), .val (.long (own_lshl (1 : Int64) x1)), .second] [(.long (0 : Int64)), (.long ((H (xx / 64)) &&& (own_lshl (1 : Int64) x1)))]))
  refine own_of (fun _ kk => XS.lcmp X1.here hx rfl (hb hby d3_18) rfl kk) ?_
  show own_Fin _ _ _ _ _ _ _ (T1.setTop (mkF m 19 #[.val (.ref x0), .val (.int x1), .val (.int (x1 / (64 : Int32))), .val (.long (own_lshl (1 : Int64) x1)), .second] [(.int (lcmpW ((H (xx / 64)) &&& (own_lshl (1 : Int64) x1)) (0 : Int64)))]))
  by_cases c19 : ((H (xx / 64)) &&& (own_lshl (1 : Int64) x1)) = (0 : Int64)
  · refine own_of (fun _ kk => XS.ifNo X1.here hx rfl (hb hby d3_19) rfl ((if0 _ _).trans (teq ((lw_eq _ _).mpr c19)).2) kk) ?_
    show own_Fin _ _ _ _ _ _ _ (T1.setTop (mkF m 22 #[.val (.ref x0), .val (.int x1), .val (.int (x1 / (64 : Int32))), .val (.long (own_lshl (1 : Int64) x1)), .second] []))
    refine own_of (fun _ kk => XS.aloadN X1.here hx rfl (hb hby d3_22) rfl rfl kk) ?_
    show own_Fin _ _ _ _ _ _ _ (T1.setTop (mkF m 23 #[.val (.ref x0), .val (.int x1), .val (.int (x1 / (64 : Int32))), .val (.long (own_lshl (1 : Int64) x1)), .second] [(.ref x0)]))
    refine own_getF X1 hx hZ hown (hw _ (List.mem_of_getElem? (i := 14) rfl)) e1 Fh (hb hby d3_23) ?_
    intro T2 X2 e2
    show own_Fin _ _ _ _ _ _ _ (T2.setTop (mkF m 26 #[.val (.ref x0), .val (.int x1), .val (.int (x1 / (64 : Int32))), .val (.long (own_lshl (1 : Int64) x1)), .second] [(.ref a2)]))
    refine own_of (fun _ kk => XS.iloadN X2.here hx rfl (hb hby d3_26) rfl kk) ?_
    show own_Fin _ _ _ _ _ _ _ (T2.setTop (mkF m 27 #[.val (.ref x0), .val (.int x1), .val (.int (x1 / (64 : Int32))), .val (.long (own_lshl (1 : Int64) x1)), .second] [(.int (x1 / (64 : Int32))), (.ref a2)]))
    refine own_laload X2 hx hZ e2 AH (i := (xx / 64)) (own_div64 hx1) (by have := I.2.2.2.2.2.2.2; omega) (v := (.long (H (xx / 64)))) rfl (hb hby d3_27) ?_
    show own_Fin _ _ _ _ _ _ _ (T2.setTop (mkF m 28 #[.val (.ref x0), .val (.int x1), .val (.int (x1 / (64 : Int32))), .val (.long (own_lshl (1 : Int64) x1)), .second] [(.long (H (xx / 64)))]))
    refine own_of (fun _ kk => XS.lconst X2.here hx rfl (hb hby d3_28) kk) ?_
    show own_Fin _ _ _ _ _ _ _ (T2.setTop (mkF m 29 #[.val (.ref x0), .val (.int x1), .val (.int (x1 / (64 : Int32))), .val (.long (own_lshl (1 : Int64) x1)), .second] [(.long (0 : Int64)), (.long (H (xx / 64)))]))
    refine own_of (fun _ kk => XS.lcmp X2.here hx rfl (hb hby d3_29) rfl kk) ?_
    show own_Fin _ _ _ _ _ _ _ (T2.setTop (mkF m 30 #[.val (.ref x0), .val (.int x1), .val (.int (x1 / (64 : Int32))), .val (.long (own_lshl (1 : Int64) x1)), .second] [(.int (lcmpW (H (xx / 64)) (0 : Int64)))]))
    by_cases c30 : (H (xx / 64)) = (0 : Int64)
    · refine own_of (fun _ kk => XS.ifNo X2.here hx rfl (hb hby d3_30) rfl ((if0 _ _).trans (teq ((lw_eq _ _).mpr c30)).2) kk) ?_
      show own_Fin _ _ _ _ _ _ _ (T2.setTop (mkF m 33 #[.val (.ref x0), .val (.int x1), .val (.int (x1 / (64 : Int32))), .val (.long (own_lshl (1 : Int64) x1)), .second] []))
      refine own_of (fun _ kk => XS.aloadN X2.here hx rfl (hb hby d3_33) rfl rfl kk) ?_
      show own_Fin _ _ _ _ _ _ _ (T2.setTop (mkF m 34 #[.val (.ref x0), .val (.int x1), .val (.int (x1 / (64 : Int32))), .val (.long (own_lshl (1 : Int64) x1)), .second] [(.ref x0)]))
      refine own_getF X2 hx hZ hown (hw _ (List.mem_of_getElem? (i := 16) rfl)) e2 Fw (hb hby d3_34) ?_
      intro T3 X3 e3
      show own_Fin _ _ _ _ _ _ _ (T3.setTop (mkF m 37 #[.val (.ref x0), .val (.int x1), .val (.int (x1 / (64 : Int32))), .val (.long (own_lshl (1 : Int64) x1)), .second] [(.ref a3)]))
      refine own_of (fun _ kk => XS.aloadN X3.here hx rfl (hb hby d3_37) rfl rfl kk) ?_
      show own_Fin _ _ _ _ _ _ _ (T3.setTop (mkF m 38 #[.val (.ref x0), .val (.int x1), .val (.int (x1 / (64 : Int32))), .val (.long (own_lshl (1 : Int64) x1)), .second] [(.ref x0), (.ref a3)]))
      refine own_of (fun _ kk => XS.dup X3.here hx rfl (hb hby d3_38) rfl rfl kk) ?_
      show own_Fin _ _ _ _ _ _ _ (T3.setTop (mkF m 39 #[.val (.ref x0), .val (.int x1), .val (.int (x1 / (64 : Int32))), .val (.long (own_lshl (1 : Int64) x1)), .second] [(.ref x0), (.ref x0), (.ref a3)]))
      refine own_getF X3 hx hZ hown (hw _ (List.mem_of_getElem? (i := 23) rfl)) e3 Fc (hb hby d3_39) ?_
      intro T4 X4 e4
      show own_Fin _ _ _ _ _ _ _ (T4.setTop (mkF m 42 #[.val (.ref x0), .val (.int x1), .val (.int (x1 / (64 : Int32))), .val (.long (own_lshl (1 : Int64) x1)), .second] [(.int wc), (.ref x0), (.ref a3)]))
      refine own_of (fun _ kk => XS.dupX1 X4.here hx rfl (hb hby d3_42) rfl rfl rfl kk) ?_
      show own_Fin _ _ _ _ _ _ _ (T4.setTop (mkF m 43 #[.val (.ref x0), .val (.int x1), .val (.int (x1 / (64 : Int32))), .val (.long (own_lshl (1 : Int64) x1)), .second] [(.int wc), (.ref x0), (.int wc), (.ref a3)]))
      refine own_of (fun _ kk => XS.iconst X4.here hx rfl (hb hby d3_43) kk) ?_
      show own_Fin _ _ _ _ _ _ _ (T4.setTop (mkF m 44 #[.val (.ref x0), .val (.int x1), .val (.int (x1 / (64 : Int32))), .val (.long (own_lshl (1 : Int64) x1)), .second] [(.int (1 : Int32)), (.int wc), (.ref x0), (.int wc), (.ref a3)]))
      refine own_of (fun _ kk => XS.iadd X4.here hx rfl (hb hby d3_44) rfl kk) ?_
      show own_Fin _ _ _ _ _ _ _ (T4.setTop (mkF m 45 #[.val (.ref x0), .val (.int x1), .val (.int (x1 / (64 : Int32))), .val (.long (own_lshl (1 : Int64) x1)), .second] [(.int (wc + (1 : Int32))), (.ref x0), (.int wc), (.ref a3)]))
      refine own_putF X4 hx hZ hown (hw _ (List.mem_of_getElem? (i := 23) rfl)) e4 Fc E (Or.inl (hw _ (List.mem_of_getElem? (i := 24) rfl))) (hw _ (List.mem_of_getElem? (i := 2) rfl)) (ty := .int) (by decide) rfl rfl N0 go (hb hby d3_45) ?_
      intro T5 h5 l5 X5 N5 e5 W5
      have ZW5 : n0 ≤ h5.size := by rw [Wr.size W5]; exact Z0
      replace E := E.wr W5
      replace EV := EV.wr W5
      replace Fs := Fs.other W5 (Or.inr (slot_ne (Or.inl (hw _ (List.mem_of_getElem? (i := 26) rfl))) (Or.inl (hw _ (List.mem_of_getElem? (i := 24) rfl))) (by decide) (t := .int) (t' := .int) (by decide) (by decide)))
      replace Fc := Fc.same W5
      replace Fv := Fv.other W5 (Or.inr (slot_ne (Or.inr (hw _ (List.mem_of_getElem? (i := 12) rfl))) (Or.inl (hw _ (List.mem_of_getElem? (i := 24) rfl))) (by decide) (t := (.array .int)) (t' := .int) (by decide) (by decide)))
      replace Fh := Fh.other W5 (Or.inr (slot_ne (Or.inr (hw _ (List.mem_of_getElem? (i := 15) rfl))) (Or.inl (hw _ (List.mem_of_getElem? (i := 24) rfl))) (by decide) (t := (.array .long)) (t' := .int) (by decide) (by decide)))
      replace Fw := Fw.other W5 (Or.inr (slot_ne (Or.inr (hw _ (List.mem_of_getElem? (i := 17) rfl))) (Or.inl (hw _ (List.mem_of_getElem? (i := 24) rfl))) (by decide) (t := (.array .int)) (t' := .int) (by decide) (by decide)))
      replace AV := AV.other W5 (Ne.symm ne1)
      replace AH := AH.other W5 (Ne.symm ne2)
      replace AW := AW.other W5 (Ne.symm ne3)
      show own_Fin _ _ _ _ _ _ _ (T5.setTop (mkF m 48 #[.val (.ref x0), .val (.int x1), .val (.int (x1 / (64 : Int32))), .val (.long (own_lshl (1 : Int64) x1)), .second] [(.int wc), (.ref a3)]))
      refine own_of (fun _ kk => XS.iloadN X5.here hx rfl (hb hby d3_48) rfl kk) ?_
      show own_Fin _ _ _ _ _ _ _ (T5.setTop (mkF m 49 #[.val (.ref x0), .val (.int x1), .val (.int (x1 / (64 : Int32))), .val (.long (own_lshl (1 : Int64) x1)), .second] [(.int (x1 / (64 : Int32))), (.int wc), (.ref a3)]))
      refine own_iastore X5 hx hZ e5 AW N5 ga3 (i := km) hwc (I.roomW (by have := I.2.2.2.2.2.2.2; omega) hn c30) (hb hby d3_49) ?_
      intro T6 h6 l6 X6 N6 e6 W6 A6
      replace A6 : own_Arf Z h6 a3 .int nw (fun j => if j = km then (.int (x1 / (64 : Int32))) else (fun j => .int (D j)) j) := A6
      have ZW6 : n0 ≤ h6.size := by rw [Wr.size W6]; exact ZW5
      replace E := E.wr W6
      replace EV := EV.wr W6
      replace Fs := Fs.other W6 (Or.inl ne3)
      replace Fc := Fc.other W6 (Or.inl ne3)
      replace Fv := Fv.other W6 (Or.inl ne3)
      replace Fh := Fh.other W6 (Or.inl ne3)
      replace Fw := Fw.other W6 (Or.inl ne3)
      replace AV := AV.other W6 ne5
      replace AH := AH.other W6 ne6
      show own_Fin _ _ _ _ _ _ _ (T6.setTop (mkF m 50 #[.val (.ref x0), .val (.int x1), .val (.int (x1 / (64 : Int32))), .val (.long (own_lshl (1 : Int64) x1)), .second] []))
      refine own_of (fun _ kk => XS.aloadN X6.here hx rfl (hb hby d3_50) rfl rfl kk) ?_
      show own_Fin _ _ _ _ _ _ _ (T6.setTop (mkF m 51 #[.val (.ref x0), .val (.int x1), .val (.int (x1 / (64 : Int32))), .val (.long (own_lshl (1 : Int64) x1)), .second] [(.ref x0)]))
      refine own_getF X6 hx hZ hown (hw _ (List.mem_of_getElem? (i := 14) rfl)) e6 Fh (hb hby d3_51) ?_
      intro T7 X7 e7
      show own_Fin _ _ _ _ _ _ _ (T7.setTop (mkF m 54 #[.val (.ref x0), .val (.int x1), .val (.int (x1 / (64 : Int32))), .val (.long (own_lshl (1 : Int64) x1)), .second] [(.ref a2)]))
      refine own_of (fun _ kk => XS.iloadN X7.here hx rfl (hb hby d3_54) rfl kk) ?_
      show own_Fin _ _ _ _ _ _ _ (T7.setTop (mkF m 55 #[.val (.ref x0), .val (.int x1), .val (.int (x1 / (64 : Int32))), .val (.long (own_lshl (1 : Int64) x1)), .second] [(.int (x1 / (64 : Int32))), (.ref a2)]))
      refine own_of (fun _ kk => Jvm.Free.XT.dup2 X7.here hx rfl (hb hby d3_55) rfl rfl rfl kk) ?_
      show own_Fin _ _ _ _ _ _ _ (T7.setTop (mkF m 56 #[.val (.ref x0), .val (.int x1), .val (.int (x1 / (64 : Int32))), .val (.long (own_lshl (1 : Int64) x1)), .second] [(.int (x1 / (64 : Int32))), (.ref a2), (.int (x1 / (64 : Int32))), (.ref a2)]))
      refine own_laload X7 hx hZ e7 AH (i := (xx / 64)) (own_div64 hx1) (by have := I.2.2.2.2.2.2.2; omega) (v := (.long (H (xx / 64)))) rfl (hb hby d3_56) ?_
      show own_Fin _ _ _ _ _ _ _ (T7.setTop (mkF m 57 #[.val (.ref x0), .val (.int x1), .val (.int (x1 / (64 : Int32))), .val (.long (own_lshl (1 : Int64) x1)), .second] [(.long (H (xx / 64))), (.int (x1 / (64 : Int32))), (.ref a2)]))
      refine own_of (fun _ kk => XS.lloadN X7.here hx rfl (hb hby d3_57) rfl kk) ?_
      show own_Fin _ _ _ _ _ _ _ (T7.setTop (mkF m 58 #[.val (.ref x0), .val (.int x1), .val (.int (x1 / (64 : Int32))), .val (.long (own_lshl (1 : Int64) x1)), .second] [(.long (own_lshl (1 : Int64) x1)), (.long (H (xx / 64))), (.int (x1 / (64 : Int32))), (.ref a2)]))
      refine own_of (fun _ kk => XS.lor X7.here hx rfl (hb hby d3_58) rfl kk) ?_
      show own_Fin _ _ _ _ _ _ _ (T7.setTop (mkF m 59 #[.val (.ref x0), .val (.int x1), .val (.int (x1 / (64 : Int32))), .val (.long (own_lshl (1 : Int64) x1)), .second] [(.long ((H (xx / 64)) ||| (own_lshl (1 : Int64) x1))), (.int (x1 / (64 : Int32))), (.ref a2)]))
      refine own_lastore X7 hx hZ e7 AH N6 ga2 (i := (xx / 64)) (own_div64 hx1) (by have := I.2.2.2.2.2.2.2; omega) (hb hby d3_59) ?_
      intro T8 h8 l8 X8 N8 e8 W8 A8
      replace A8 : own_Arf Z h8 a2 .long nw (fun j => if j = (xx / 64) then (.long ((H (xx / 64)) ||| (own_lshl (1 : Int64) x1))) else (fun j => .long (H j)) j) := A8
      have ZW8 : n0 ≤ h8.size := by rw [Wr.size W8]; exact ZW6
      replace E := E.wr W8
      replace EV := EV.wr W8
      replace Fs := Fs.other W8 (Or.inl ne2)
      replace Fc := Fc.other W8 (Or.inl ne2)
      replace Fv := Fv.other W8 (Or.inl ne2)
      replace Fh := Fh.other W8 (Or.inl ne2)
      replace Fw := Fw.other W8 (Or.inl ne2)
      replace AV := AV.other W8 ne4
      replace A6 := A6.other W8 (Ne.symm ne6)
      show own_Fin _ _ _ _ _ _ _ (T8.setTop (mkF m 60 #[.val (.ref x0), .val (.int x1), .val (.int (x1 / (64 : Int32))), .val (.long (own_lshl (1 : Int64) x1)), .second] []))
      refine own_of (fun _ kk => XS.aloadN X8.here hx rfl (hb hby d3_60) rfl rfl kk) ?_
      show own_Fin _ _ _ _ _ _ _ (T8.setTop (mkF m 61 #[.val (.ref x0), .val (.int x1), .val (.int (x1 / (64 : Int32))), .val (.long (own_lshl (1 : Int64) x1)), .second] [(.ref x0)]))
      refine own_getF X8 hx hZ hown (hw _ (List.mem_of_getElem? (i := 11) rfl)) e8 Fv (hb hby d3_61) ?_
      intro T9 X9 e9
      show own_Fin _ _ _ _ _ _ _ (T9.setTop (mkF m 64 #[.val (.ref x0), .val (.int x1), .val (.int (x1 / (64 : Int32))), .val (.long (own_lshl (1 : Int64) x1)), .second] [(.ref a1)]))
      refine own_of (fun _ kk => XS.aloadN X9.here hx rfl (hb hby d3_64) rfl rfl kk) ?_
      show own_Fin _ _ _ _ _ _ _ (T9.setTop (mkF m 65 #[.val (.ref x0), .val (.int x1), .val (.int (x1 / (64 : Int32))), .val (.long (own_lshl (1 : Int64) x1)), .second] [(.ref x0), (.ref a1)]))
      refine own_of (fun _ kk => XS.dup X9.here hx rfl (hb hby d3_65) rfl rfl kk) ?_
      show own_Fin _ _ _ _ _ _ _ (T9.setTop (mkF m 66 #[.val (.ref x0), .val (.int x1), .val (.int (x1 / (64 : Int32))), .val (.long (own_lshl (1 : Int64) x1)), .second] [(.ref x0), (.ref x0), (.ref a1)]))
      refine own_getF X9 hx hZ hown (hw _ (List.mem_of_getElem? (i := 25) rfl)) e9 Fs (hb hby d3_66) ?_
      intro T10 X10 e10
      show own_Fin _ _ _ _ _ _ _ (T10.setTop (mkF m 69 #[.val (.ref x0), .val (.int x1), .val (.int (x1 / (64 : Int32))), .val (.long (own_lshl (1 : Int64) x1)), .second] [(.int sz), (.ref x0), (.ref a1)]))
      refine own_of (fun _ kk => XS.dupX1 X10.here hx rfl (hb hby d3_69) rfl rfl rfl kk) ?_
      show own_Fin _ _ _ _ _ _ _ (T10.setTop (mkF m 70 #[.val (.ref x0), .val (.int x1), .val (.int (x1 / (64 : Int32))), .val (.long (own_lshl (1 : Int64) x1)), .second] [(.int sz), (.ref x0), (.int sz), (.ref a1)]))
      refine own_of (fun _ kk => XS.iconst X10.here hx rfl (hb hby d3_70) kk) ?_
      show own_Fin _ _ _ _ _ _ _ (T10.setTop (mkF m 71 #[.val (.ref x0), .val (.int x1), .val (.int (x1 / (64 : Int32))), .val (.long (own_lshl (1 : Int64) x1)), .second] [(.int (1 : Int32)), (.int sz), (.ref x0), (.int sz), (.ref a1)]))
      refine own_of (fun _ kk => XS.iadd X10.here hx rfl (hb hby d3_71) rfl kk) ?_
      show own_Fin _ _ _ _ _ _ _ (T10.setTop (mkF m 72 #[.val (.ref x0), .val (.int x1), .val (.int (x1 / (64 : Int32))), .val (.long (own_lshl (1 : Int64) x1)), .second] [(.int (sz + (1 : Int32))), (.ref x0), (.int sz), (.ref a1)]))
      refine own_putF X10 hx hZ hown (hw _ (List.mem_of_getElem? (i := 25) rfl)) e10 Fs E (Or.inl (hw _ (List.mem_of_getElem? (i := 26) rfl))) (hw _ (List.mem_of_getElem? (i := 2) rfl)) (ty := .int) (by decide) rfl rfl N8 go (hb hby d3_72) ?_
      intro T11 h11 l11 X11 N11 e11 W11
      have ZW11 : n0 ≤ h11.size := by rw [Wr.size W11]; exact ZW8
      replace E := E.wr W11
      replace EV := EV.wr W11
      replace Fs := Fs.same W11
      replace Fc := Fc.other W11 (Or.inr (slot_ne (Or.inl (hw _ (List.mem_of_getElem? (i := 24) rfl))) (Or.inl (hw _ (List.mem_of_getElem? (i := 26) rfl))) (by decide) (t := .int) (t' := .int) (by decide) (by decide)))
      replace Fv := Fv.other W11 (Or.inr (slot_ne (Or.inr (hw _ (List.mem_of_getElem? (i := 12) rfl))) (Or.inl (hw _ (List.mem_of_getElem? (i := 26) rfl))) (by decide) (t := (.array .int)) (t' := .int) (by decide) (by decide)))
      replace Fh := Fh.other W11 (Or.inr (slot_ne (Or.inr (hw _ (List.mem_of_getElem? (i := 15) rfl))) (Or.inl (hw _ (List.mem_of_getElem? (i := 26) rfl))) (by decide) (t := (.array .long)) (t' := .int) (by decide) (by decide)))
      replace Fw := Fw.other W11 (Or.inr (slot_ne (Or.inr (hw _ (List.mem_of_getElem? (i := 17) rfl))) (Or.inl (hw _ (List.mem_of_getElem? (i := 26) rfl))) (by decide) (t := (.array .int)) (t' := .int) (by decide) (by decide)))
      replace AV := AV.other W11 (Ne.symm ne1)
      replace A8 := A8.other W11 (Ne.symm ne2)
      replace A6 := A6.other W11 (Ne.symm ne3)
      show own_Fin _ _ _ _ _ _ _ (T11.setTop (mkF m 75 #[.val (.ref x0), .val (.int x1), .val (.int (x1 / (64 : Int32))), .val (.long (own_lshl (1 : Int64) x1)), .second] [(.int sz), (.ref a1)]))
      refine own_of (fun _ kk => XS.iloadN X11.here hx rfl (hb hby d3_75) rfl kk) ?_
      show own_Fin _ _ _ _ _ _ _ (T11.setTop (mkF m 76 #[.val (.ref x0), .val (.int x1), .val (.int (x1 / (64 : Int32))), .val (.long (own_lshl (1 : Int64) x1)), .second] [(.int x1), (.int sz), (.ref a1)]))
      refine own_iastore X11 hx hZ e11 AV N11 ga1 (i := kn) hsz (I.room hxc hn (I.no hx1 hxc c19)) (hb hby d3_76) ?_
      intro T12 h12 l12 X12 N12 e12 W12 A12
      replace A12 : own_Arf Z h12 a1 .int cap (fun j => if j = kn then (.int x1) else (fun j => .int (V j)) j) := A12
      have ZW12 : n0 ≤ h12.size := by rw [Wr.size W12]; exact ZW11
      replace E := E.wr W12
      replace EV := EV.wr W12
      replace Fs := Fs.other W12 (Or.inl ne1)
      replace Fc := Fc.other W12 (Or.inl ne1)
      replace Fv := Fv.other W12 (Or.inl ne1)
      replace Fh := Fh.other W12 (Or.inl ne1)
      replace Fw := Fw.other W12 (Or.inl ne1)
      replace A8 := A8.other W12 (Ne.symm ne4)
      replace A6 := A6.other W12 (Ne.symm ne5)
      show own_Fin _ _ _ _ _ _ _ (T12.setTop (mkF m 77 #[.val (.ref x0), .val (.int x1), .val (.int (x1 / (64 : Int32))), .val (.long (own_lshl (1 : Int64) x1)), .second] []))
      exact own_retV X12 hx hlk e12 hret (hb hby d3_77) (by decide) (by decide) ⟨rfl, N12, ZW12, _, _, own_upd V kn x1, own_upd H (xx / 64) (H (xx / 64) ||| own_lshl (1 : Int64) x1), own_upd D km (x1 / (64 : Int32)), kn + 1, km + 1, own_upd ee kn xx, own_upd dd km (xx / 64), ⟨E, Fs, Fc, Fv, Fh, Fw, (A12.congr fun j _ => by unfold own_upd; dsimp only; split <;> rfl), (A8.congr fun j _ => by unfold own_upd; dsimp only; split <;> rfl), (A6.congr fun j _ => by unfold own_upd; dsimp only; split <;> rfl), EV, ⟨ne1, ne2, ne3, ne4, ne5, ne6⟩, go, ga1, ga2, ga3⟩, own_p1 hsz (by omega), own_p1 hwc (by have := I.2.2.2.2.2.2.1; omega), I.new2 hx1 (own_div64 hx1) hxc c19 c30, Or.inr ⟨I.no hx1 hxc c19, rfl, rfl⟩⟩
    · refine own_of (fun _ kk => XS.ifYes X2.here hx rfl (pc0 := 30) (pc' := 50) rfl (hb hby d3_30) rfl ((if0 _ _).trans (feq (mt (lw_eq _ _).mp c30)).2) (by decide) (by decide) kk) ?_
      show own_Fin _ _ _ _ _ _ _ (T2.setTop (mkF m 50 #[.val (.ref x0), .val (.int x1), .val (.int (x1 / (64 : Int32))), .val (.long (own_lshl (1 : Int64) x1)), .second] []))
      refine own_of (fun _ kk => XS.aloadN X2.here hx rfl (hb hby d3_50) rfl rfl kk) ?_
      show own_Fin _ _ _ _ _ _ _ (T2.setTop (mkF m 51 #[.val (.ref x0), .val (.int x1), .val (.int (x1 / (64 : Int32))), .val (.long (own_lshl (1 : Int64) x1)), .second] [(.ref x0)]))
      refine own_getF X2 hx hZ hown (hw _ (List.mem_of_getElem? (i := 14) rfl)) e2 Fh (hb hby d3_51) ?_
      intro T13 X13 e13
      show own_Fin _ _ _ _ _ _ _ (T13.setTop (mkF m 54 #[.val (.ref x0), .val (.int x1), .val (.int (x1 / (64 : Int32))), .val (.long (own_lshl (1 : Int64) x1)), .second] [(.ref a2)]))
      refine own_of (fun _ kk => XS.iloadN X13.here hx rfl (hb hby d3_54) rfl kk) ?_
      show own_Fin _ _ _ _ _ _ _ (T13.setTop (mkF m 55 #[.val (.ref x0), .val (.int x1), .val (.int (x1 / (64 : Int32))), .val (.long (own_lshl (1 : Int64) x1)), .second] [(.int (x1 / (64 : Int32))), (.ref a2)]))
      refine own_of (fun _ kk => Jvm.Free.XT.dup2 X13.here hx rfl (hb hby d3_55) rfl rfl rfl kk) ?_
      show own_Fin _ _ _ _ _ _ _ (T13.setTop (mkF m 56 #[.val (.ref x0), .val (.int x1), .val (.int (x1 / (64 : Int32))), .val (.long (own_lshl (1 : Int64) x1)), .second] [(.int (x1 / (64 : Int32))), (.ref a2), (.int (x1 / (64 : Int32))), (.ref a2)]))
      refine own_laload X13 hx hZ e13 AH (i := (xx / 64)) (own_div64 hx1) (by have := I.2.2.2.2.2.2.2; omega) (v := (.long (H (xx / 64)))) rfl (hb hby d3_56) ?_
      show own_Fin _ _ _ _ _ _ _ (T13.setTop (mkF m 57 #[.val (.ref x0), .val (.int x1), .val (.int (x1 / (64 : Int32))), .val (.long (own_lshl (1 : Int64) x1)), .second] [(.long (H (xx / 64))), (.int (x1 / (64 : Int32))), (.ref a2)]))
      refine own_of (fun _ kk => XS.lloadN X13.here hx rfl (hb hby d3_57) rfl kk) ?_
      show own_Fin _ _ _ _ _ _ _ (T13.setTop (mkF m 58 #[.val (.ref x0), .val (.int x1), .val (.int (x1 / (64 : Int32))), .val (.long (own_lshl (1 : Int64) x1)), .second] [(.long (own_lshl (1 : Int64) x1)), (.long (H (xx / 64))), (.int (x1 / (64 : Int32))), (.ref a2)]))
      refine own_of (fun _ kk => XS.lor X13.here hx rfl (hb hby d3_58) rfl kk) ?_
      show own_Fin _ _ _ _ _ _ _ (T13.setTop (mkF m 59 #[.val (.ref x0), .val (.int x1), .val (.int (x1 / (64 : Int32))), .val (.long (own_lshl (1 : Int64) x1)), .second] [(.long ((H (xx / 64)) ||| (own_lshl (1 : Int64) x1))), (.int (x1 / (64 : Int32))), (.ref a2)]))
      refine own_lastore X13 hx hZ e13 AH N0 ga2 (i := (xx / 64)) (own_div64 hx1) (by have := I.2.2.2.2.2.2.2; omega) (hb hby d3_59) ?_
      intro T14 h14 l14 X14 N14 e14 W14 A14
      replace A14 : own_Arf Z h14 a2 .long nw (fun j => if j = (xx / 64) then (.long ((H (xx / 64)) ||| (own_lshl (1 : Int64) x1))) else (fun j => .long (H j)) j) := A14
      have ZW14 : n0 ≤ h14.size := by rw [Wr.size W14]; exact Z0
      replace E := E.wr W14
      replace EV := EV.wr W14
      replace Fs := Fs.other W14 (Or.inl ne2)
      replace Fc := Fc.other W14 (Or.inl ne2)
      replace Fv := Fv.other W14 (Or.inl ne2)
      replace Fh := Fh.other W14 (Or.inl ne2)
      replace Fw := Fw.other W14 (Or.inl ne2)
      replace AV := AV.other W14 ne4
      replace AW := AW.other W14 (Ne.symm ne6)
      show own_Fin _ _ _ _ _ _ _ (T14.setTop (mkF m 60 #[.val (.ref x0), .val (.int x1), .val (.int (x1 / (64 : Int32))), .val (.long (own_lshl (1 : Int64) x1)), .second] []))
      refine own_of (fun _ kk => XS.aloadN X14.here hx rfl (hb hby d3_60) rfl rfl kk) ?_
      show own_Fin _ _ _ _ _ _ _ (T14.setTop (mkF m 61 #[.val (.ref x0), .val (.int x1), .val (.int (x1 / (64 : Int32))), .val (.long (own_lshl (1 : Int64) x1)), .second] [(.ref x0)]))
      refine own_getF X14 hx hZ hown (hw _ (List.mem_of_getElem? (i := 11) rfl)) e14 Fv (hb hby d3_61) ?_
      intro T15 X15 e15
      show own_Fin _ _ _ _ _ _ _ (T15.setTop (mkF m 64 #[.val (.ref x0), .val (.int x1), .val (.int (x1 / (64 : Int32))), .val (.long (own_lshl (1 : Int64) x1)), .second] [(.ref a1)]))
      refine own_of (fun _ kk => XS.aloadN X15.here hx rfl (hb hby d3_64) rfl rfl kk) ?_
      show own_Fin _ _ _ _ _ _ _ (T15.setTop (mkF m 65 #[.val (.ref x0), .val (.int x1), .val (.int (x1 / (64 : Int32))), .val (.long (own_lshl (1 : Int64) x1)), .second] [(.ref x0), (.ref a1)]))
      refine own_of (fun _ kk => XS.dup X15.here hx rfl (hb hby d3_65) rfl rfl kk) ?_
      show own_Fin _ _ _ _ _ _ _ (T15.setTop (mkF m 66 #[.val (.ref x0), .val (.int x1), .val (.int (x1 / (64 : Int32))), .val (.long (own_lshl (1 : Int64) x1)), .second] [(.ref x0), (.ref x0), (.ref a1)]))
      refine own_getF X15 hx hZ hown (hw _ (List.mem_of_getElem? (i := 25) rfl)) e15 Fs (hb hby d3_66) ?_
      intro T16 X16 e16
      show own_Fin _ _ _ _ _ _ _ (T16.setTop (mkF m 69 #[.val (.ref x0), .val (.int x1), .val (.int (x1 / (64 : Int32))), .val (.long (own_lshl (1 : Int64) x1)), .second] [(.int sz), (.ref x0), (.ref a1)]))
      refine own_of (fun _ kk => XS.dupX1 X16.here hx rfl (hb hby d3_69) rfl rfl rfl kk) ?_
      show own_Fin _ _ _ _ _ _ _ (T16.setTop (mkF m 70 #[.val (.ref x0), .val (.int x1), .val (.int (x1 / (64 : Int32))), .val (.long (own_lshl (1 : Int64) x1)), .second] [(.int sz), (.ref x0), (.int sz), (.ref a1)]))
      refine own_of (fun _ kk => XS.iconst X16.here hx rfl (hb hby d3_70) kk) ?_
      show own_Fin _ _ _ _ _ _ _ (T16.setTop (mkF m 71 #[.val (.ref x0), .val (.int x1), .val (.int (x1 / (64 : Int32))), .val (.long (own_lshl (1 : Int64) x1)), .second] [(.int (1 : Int32)), (.int sz), (.ref x0), (.int sz), (.ref a1)]))
      refine own_of (fun _ kk => XS.iadd X16.here hx rfl (hb hby d3_71) rfl kk) ?_
      show own_Fin _ _ _ _ _ _ _ (T16.setTop (mkF m 72 #[.val (.ref x0), .val (.int x1), .val (.int (x1 / (64 : Int32))), .val (.long (own_lshl (1 : Int64) x1)), .second] [(.int (sz + (1 : Int32))), (.ref x0), (.int sz), (.ref a1)]))
      refine own_putF X16 hx hZ hown (hw _ (List.mem_of_getElem? (i := 25) rfl)) e16 Fs E (Or.inl (hw _ (List.mem_of_getElem? (i := 26) rfl))) (hw _ (List.mem_of_getElem? (i := 2) rfl)) (ty := .int) (by decide) rfl rfl N14 go (hb hby d3_72) ?_
      intro T17 h17 l17 X17 N17 e17 W17
      have ZW17 : n0 ≤ h17.size := by rw [Wr.size W17]; exact ZW14
      replace E := E.wr W17
      replace EV := EV.wr W17
      replace Fs := Fs.same W17
      replace Fc := Fc.other W17 (Or.inr (slot_ne (Or.inl (hw _ (List.mem_of_getElem? (i := 24) rfl))) (Or.inl (hw _ (List.mem_of_getElem? (i := 26) rfl))) (by decide) (t := .int) (t' := .int) (by decide) (by decide)))
      replace Fv := Fv.other W17 (Or.inr (slot_ne (Or.inr (hw _ (List.mem_of_getElem? (i := 12) rfl))) (Or.inl (hw _ (List.mem_of_getElem? (i := 26) rfl))) (by decide) (t := (.array .int)) (t' := .int) (by decide) (by decide)))
      replace Fh := Fh.other W17 (Or.inr (slot_ne (Or.inr (hw _ (List.mem_of_getElem? (i := 15) rfl))) (Or.inl (hw _ (List.mem_of_getElem? (i := 26) rfl))) (by decide) (t := (.array .long)) (t' := .int) (by decide) (by decide)))
      replace Fw := Fw.other W17 (Or.inr (slot_ne (Or.inr (hw _ (List.mem_of_getElem? (i := 17) rfl))) (Or.inl (hw _ (List.mem_of_getElem? (i := 26) rfl))) (by decide) (t := (.array .int)) (t' := .int) (by decide) (by decide)))
      replace AV := AV.other W17 (Ne.symm ne1)
      replace A14 := A14.other W17 (Ne.symm ne2)
      replace AW := AW.other W17 (Ne.symm ne3)
      show own_Fin _ _ _ _ _ _ _ (T17.setTop (mkF m 75 #[.val (.ref x0), .val (.int x1), .val (.int (x1 / (64 : Int32))), .val (.long (own_lshl (1 : Int64) x1)), .second] [(.int sz), (.ref a1)]))
      refine own_of (fun _ kk => XS.iloadN X17.here hx rfl (hb hby d3_75) rfl kk) ?_
      show own_Fin _ _ _ _ _ _ _ (T17.setTop (mkF m 76 #[.val (.ref x0), .val (.int x1), .val (.int (x1 / (64 : Int32))), .val (.long (own_lshl (1 : Int64) x1)), .second] [(.int x1), (.int sz), (.ref a1)]))
      refine own_iastore X17 hx hZ e17 AV N17 ga1 (i := kn) hsz (I.room hxc hn (I.no hx1 hxc c19)) (hb hby d3_76) ?_
      intro T18 h18 l18 X18 N18 e18 W18 A18
      replace A18 : own_Arf Z h18 a1 .int cap (fun j => if j = kn then (.int x1) else (fun j => .int (V j)) j) := A18
      have ZW18 : n0 ≤ h18.size := by rw [Wr.size W18]; exact ZW17
      replace E := E.wr W18
      replace EV := EV.wr W18
      replace Fs := Fs.other W18 (Or.inl ne1)
      replace Fc := Fc.other W18 (Or.inl ne1)
      replace Fv := Fv.other W18 (Or.inl ne1)
      replace Fh := Fh.other W18 (Or.inl ne1)
      replace Fw := Fw.other W18 (Or.inl ne1)
      replace A14 := A14.other W18 (Ne.symm ne4)
      replace AW := AW.other W18 (Ne.symm ne5)
      show own_Fin _ _ _ _ _ _ _ (T18.setTop (mkF m 77 #[.val (.ref x0), .val (.int x1), .val (.int (x1 / (64 : Int32))), .val (.long (own_lshl (1 : Int64) x1)), .second] []))
      exact own_retV X18 hx hlk e18 hret (hb hby d3_77) (by decide) (by decide) ⟨rfl, N18, ZW18, _, wc, own_upd V kn x1, own_upd H (xx / 64) (H (xx / 64) ||| own_lshl (1 : Int64) x1), D, kn + 1, km, own_upd ee kn xx, dd, ⟨E, Fs, Fc, Fv, Fh, Fw, (A18.congr fun j _ => by unfold own_upd; dsimp only; split <;> rfl), (A14.congr fun j _ => by unfold own_upd; dsimp only; split <;> rfl), AW, EV, ⟨ne1, ne2, ne3, ne4, ne5, ne6⟩, go, ga1, ga2, ga3⟩, own_p1 hsz (by omega), hwc, I.new1 hx1 hxc c19 c30, Or.inr ⟨I.no hx1 hxc c19, rfl, rfl⟩⟩
  · refine own_of (fun _ kk => XS.ifYes X1.here hx rfl (pc0 := 19) (pc' := 77) rfl (hb hby d3_19) rfl ((if0 _ _).trans (feq (mt (lw_eq _ _).mp c19)).2) (by decide) (by decide) kk) ?_
    show own_Fin _ _ _ _ _ _ _ (T1.setTop (mkF m 77 #[.val (.ref x0), .val (.int x1), .val (.int (x1 / (64 : Int32))), .val (.long (own_lshl (1 : Int64) x1)), .second] []))
    exact own_retV X1 hx hlk e1 hret (hb hby d3_77) (by decide) (by decide) ⟨rfl, N0, Z0, sz, wc, V, H, D, kn, km, ee, dd, ⟨E, Fs, Fc, Fv, Fh, Fw, AV, AH, AW, EV, ⟨ne1, ne2, ne3, ne4, ne5, ne6⟩, go, ga1, ga2, ga3⟩, hsz, hwc, I, Or.inl ⟨I.old hx1 hxc c19, rfl, rfl⟩⟩
def own_hitb (ks : Nat → Nat) : Nat → Nat → Bool
  | 0, _ => false
  | i + 1, j => decide (j = ks i) || own_hitb ks i j
theorem own_hitb_iff (ks : Nat → Nat) (j : Nat) : ∀ i, own_hitb ks i j = true ↔ ∃ t, t < i ∧ ks t = j
  | 0 => ⟨fun h => absurd (show false = true from h) (by decide), fun ⟨t, h, _⟩ => absurd h (Nat.not_lt_zero t)⟩
  | i + 1 => by
    show (decide (j = ks i) || own_hitb ks i j) = true ↔ _
    rw [Bool.or_eq_true, decide_eq_true_eq, own_hitb_iff ks j i]
    constructor
    · rintro (h | ⟨t, h1, h2⟩)
      · exact ⟨i, by omega, h.symm⟩
      · exact ⟨t, by omega, h2⟩
    · rintro ⟨t, h1, h2⟩
      by_cases q : t = i
      · subst q; exact Or.inl h2.symm
      · exact Or.inr ⟨t, by omega, h2⟩
def own_cw (ks : Nat → Nat) (W : Nat → Int64) (i j : Nat) : Int64 := if own_hitb ks i j = true then 0 else W j
theorem own_cw0 (ks : Nat → Nat) (W : Nat → Int64) (j : Nat) : W j = own_cw ks W 0 j := rfl
theorem own_cws (ks : Nat → Nat) (W : Nat → Int64) (i j : Nat) : (if j = (ks i) then (Value.long (0 : Int64)) else (fun j => Value.long (own_cw ks W i j)) j) = .long (own_cw ks W (i + 1) j) := by
  show (if j = (ks i) then (Value.long (0 : Int64)) else Value.long (if own_hitb ks i j = true then 0 else W j)) = .long (if (decide (j = ks i) || own_hitb ks i j) = true then 0 else W j)
  by_cases h : j = ks i
  · rw [if_pos h, if_pos (by simp [h])]
  · rw [if_neg h]; simp [h]
theorem own_Inv.clean {cap nw n m : Nat} {e d : Nat → Nat} {V D D' : Nat → Int32} {H : Nat → Int64} (I : own_Inv cap nw n m e d V D H) : own_Inv cap nw 0 0 e d V D' (own_cw d H m) := by
  obtain ⟨i1, i2, i3, i4, i5, i6, i7, i8⟩ := I
  refine ⟨fun t h => absurd h (Nat.not_lt_zero t), fun t u h => absurd h (Nat.not_lt_zero t), fun t h => absurd h (Nat.not_lt_zero t), fun t u h => absurd h (Nat.not_lt_zero t), fun w hw p hp => ?_, fun w => ⟨fun ⟨t, h, _⟩ => absurd h (Nat.not_lt_zero t), fun ⟨t, h, _⟩ => absurd h (Nat.not_lt_zero t)⟩, by omega, i8⟩
  refine ⟨fun h => ?_, fun ⟨t, h, _⟩ => absurd h (Nat.not_lt_zero t)⟩
  exfalso
  unfold own_cw at h
  by_cases q : own_hitb d m w = true
  · rw [if_pos q, (own_z64 0).mp rfl p hp] at h; cases h
  · rw [if_neg q] at h
    obtain ⟨t, g1, g2⟩ := (i5 w hw p hp).mp h
    exact q ((own_hitb_iff d w m).mpr ((i6 w).mpr ⟨t, g1, by omega⟩))
set_option maxRecDepth 65536 in
set_option maxHeartbeats 40000000 in
theorem own_loopC (l : Launch) (Z : State) (a0 : Array Value) (hw : ∀ d ∈ tables_1, d.before a0 Z = true) (x0 : Addr) (cap : Nat) (nw : Nat) (sz : Int32) (wc : Int32) (a1 : Addr) (a2 : Addr) (a3 : Addr) (V : Nat → Int32) (H : Nat → Int64) (D : Nat → Int32) (dd : Nat → Nat) (km : Nat) (hs : Heap) (n0 : Nat) {p : Program} {e : Env} {R : Room} {s : State} {m : MethodId} {args : Array Value} {below : List Frame} {meth : Method} {c : Code} (hx : p.tables.exec = Jvm.exec) (hby : c.code = prog_91_method_5_code) (hml : c.maxLocals = 2) (hown : s.vm.findClass "com/example/shardloom/shardloom/VertexSet" = some m.cls) (hZ : Z.Warmed39 s.vm) (hret : meth.sig.returnType = none) (hlk : meth.locks = false) (hwc : wc.toInt = (km : Int)) (hkm : km ≤ 100) (hks : ∀ t, t < km → (D t).toInt = (dd t : Int) ∧ dd t < nw) (ne1 : x0 ≠ a1) (ne2 : x0 ≠ a2) (ne3 : x0 ≠ a3) (ne4 : a1 ≠ a2) (ne5 : a1 ≠ a3) (ne6 : a2 ≠ a3) (go : n0 ≤ x0) (ga1 : n0 ≤ a1) (ga2 : n0 ≤ a2) (ga3 : n0 ≤ a3) (hlt : ∀ i, i < km → i < nw) :
    ∀ (d : Nat) (i : Nat) (p1 : Int32) (T0 : State) (locs : List Loc) (h0 : Heap), Stand p l e R s m args below meth c T0 locs 0 0 → Fr n0 locs → n0 ≤ h0.size → T0.heap = h0 → (i + d = km) → (p1.toInt = (i : Int)) → (Exa Z h0 x0 "com/example/shardloom/shardloom/VertexSet") → (Fld Z h0 x0 "com/example/shardloom/shardloom/VertexSet" "size" "I" (.int sz)) → (Fld Z h0 x0 "com/example/shardloom/shardloom/VertexSet" "wordCount" "I" (.int wc)) → (Fld Z h0 x0 "com/example/shardloom/shardloom/VertexSet" "vertices" "[I" (.ref a1)) → (Fld Z h0 x0 "com/example/shardloom/shardloom/VertexSet" "held" "[J" (.ref a2)) → (Fld Z h0 x0 "com/example/shardloom/shardloom/VertexSet" "words" "[I" (.ref a3)) → (own_Arf Z h0 a1 .int cap (fun j => .int (V j))) → (own_Arf Z h0 a2 .long nw (fun j => .long (own_cw dd H i j))) → (own_Arf Z h0 a3 .int nw (fun j => .int (D j))) → (Exa Z h0 a1 "[I") → (Keep hs h0 [x0, a2]) → own_Fin p e below s 0 0 (fun v h L => v = none ∧ Fr n0 L ∧ n0 ≤ h.size ∧ own_VS Z h n0 x0 cap nw 0 0 a1 a2 a3 V (own_cw dd H km) D ∧ Keep hs h [x0, a2]) (T0.setTop (mkF m 2 #[.val (.ref x0), .val (.int p1)] [])) := by
  intro d
  induction d with
  | zero =>
    intro i p1 T0 locs h0 X0 N0 Z0 e0 hi hp E Fs Fc Fv Fh Fw AV AH AW EV K
    obtain rfl : i = km := by omega
    show own_Fin _ _ _ _ _ _ _ (T0.setTop (mkF m 2 #[.val (.ref x0), .val (.int p1)] []))
    refine own_of (fun _ kk => XS.iloadN X0.here hx rfl (hb hby d12_2) rfl kk) ?_
    show own_Fin _ _ _ _ _ _ _ (T0.setTop (mkF m 3 #[.val (.ref x0), .val (.int p1)] [(.int p1)]))
    refine own_of (fun _ kk => XS.aloadN X0.here hx rfl (hb hby d12_3) rfl rfl kk) ?_
    show own_Fin _ _ _ _ _ _ _ (T0.setTop (mkF m 4 #[.val (.ref x0), .val (.int p1)] [(.ref x0), (.int p1)]))
    refine own_getF X0 hx hZ hown (hw _ (List.mem_of_getElem? (i := 23) rfl)) e0 Fc (hb hby d12_4) ?_
    intro T1 X1 e1
    show own_Fin _ _ _ _ _ _ _ (T1.setTop (mkF m 7 #[.val (.ref x0), .val (.int p1)] [(.int wc), (.int p1)]))
    refine own_of (fun _ kk => XS.icmpYes X1.here hx rfl (pc0 := 7) (pc' := 28) rfl (hb hby d12_7) rfl (flt (by rw [Int32.lt_iff_toInt_lt]; omega)).2.1 (by decide) (by decide) kk) ?_
    show own_Fin _ _ _ _ _ _ _ (T1.setTop (mkF m 28 #[.val (.ref x0), .val (.int p1)] []))
    refine own_of (fun _ kk => XS.aloadN X1.here hx rfl (hb hby d12_28) rfl rfl kk) ?_
    show own_Fin _ _ _ _ _ _ _ (T1.setTop (mkF m 29 #[.val (.ref x0), .val (.int p1)] [(.ref x0)]))
    refine own_of (fun _ kk => XS.iconst X1.here hx rfl (hb hby d12_29) kk) ?_
    show own_Fin _ _ _ _ _ _ _ (T1.setTop (mkF m 30 #[.val (.ref x0), .val (.int p1)] [(.int (0 : Int32)), (.ref x0)]))
    refine own_putF X1 hx hZ hown (hw _ (List.mem_of_getElem? (i := 25) rfl)) e1 Fs E (Or.inl (hw _ (List.mem_of_getElem? (i := 26) rfl))) (hw _ (List.mem_of_getElem? (i := 2) rfl)) (ty := .int) (by decide) rfl rfl N0 go (hb hby d12_30) ?_
    intro T2 h2 l2 X2 N2 e2 W2
    have KW2 := K.wr W2 (Or.inl (List.mem_of_getElem? (i := 0) rfl))
    have ZW2 : n0 ≤ h2.size := by rw [Wr.size W2]; exact Z0
    replace E := E.wr W2
    replace EV := EV.wr W2
    replace Fs := Fs.same W2
    replace Fc := Fc.other W2 (Or.inr (slot_ne (Or.inl (hw _ (List.mem_of_getElem? (i := 24) rfl))) (Or.inl (hw _ (List.mem_of_getElem? (i := 26) rfl))) (by decide) (t := .int) (t' := .int) (by decide) (by decide)))
    replace Fv := Fv.other W2 (Or.inr (slot_ne (Or.inr (hw _ (List.mem_of_getElem? (i := 12) rfl))) (Or.inl (hw _ (List.mem_of_getElem? (i := 26) rfl))) (by decide) (t := (.array .int)) (t' := .int) (by decide) (by decide)))
    replace Fh := Fh.other W2 (Or.inr (slot_ne (Or.inr (hw _ (List.mem_of_getElem? (i := 15) rfl))) (Or.inl (hw _ (List.mem_of_getElem? (i := 26) rfl))) (by decide) (t := (.array .long)) (t' := .int) (by decide) (by decide)))
    replace Fw := Fw.other W2 (Or.inr (slot_ne (Or.inr (hw _ (List.mem_of_getElem? (i := 17) rfl))) (Or.inl (hw _ (List.mem_of_getElem? (i := 26) rfl))) (by decide) (t := (.array .int)) (t' := .int) (by decide) (by decide)))
    replace AV := AV.other W2 (Ne.symm ne1)
    replace AH := AH.other W2 (Ne.symm ne2)
    replace AW := AW.other W2 (Ne.symm ne3)
    show own_Fin _ _ _ _ _ _ _ (T2.setTop (mkF m 33 #[.val (.ref x0), .val (.int p1)] []))
    refine own_of (fun _ kk => XS.aloadN X2.here hx rfl (hb hby d12_33) rfl rfl kk) ?_
    show own_Fin _ _ _ _ _ _ _ (T2.setTop (mkF m 34 #[.val (.ref x0), .val (.int p1)] [(.ref x0)]))
    refine own_of (fun _ kk => XS.iconst X2.here hx rfl (hb hby d12_34) kk) ?_
    show own_Fin _ _ _ _ _ _ _ (T2.setTop (mkF m 35 #[.val (.ref x0), .val (.int p1)] [(.int (0 : Int32)), (.ref x0)]))
    refine own_putF X2 hx hZ hown (hw _ (List.mem_of_getElem? (i := 23) rfl)) e2 Fc E (Or.inl (hw _ (List.mem_of_getElem? (i := 24) rfl))) (hw _ (List.mem_of_getElem? (i := 2) rfl)) (ty := .int) (by decide) rfl rfl N2 go (hb hby d12_35) ?_
    intro T3 h3 l3 X3 N3 e3 W3
    have KW3 := KW2.wr W3 (Or.inl (List.mem_of_getElem? (i := 0) rfl))
    have ZW3 : n0 ≤ h3.size := by rw [Wr.size W3]; exact ZW2
    replace E := E.wr W3
    replace EV := EV.wr W3
    replace Fs := Fs.other W3 (Or.inr (slot_ne (Or.inl (hw _ (List.mem_of_getElem? (i := 26) rfl))) (Or.inl (hw _ (List.mem_of_getElem? (i := 24) rfl))) (by decide) (t := .int) (t' := .int) (by decide) (by decide)))
    replace Fc := Fc.same W3
    replace Fv := Fv.other W3 (Or.inr (slot_ne (Or.inr (hw _ (List.mem_of_getElem? (i := 12) rfl))) (Or.inl (hw _ (List.mem_of_getElem? (i := 24) rfl))) (by decide) (t := (.array .int)) (t' := .int) (by decide) (by decide)))
    replace Fh := Fh.other W3 (Or.inr (slot_ne (Or.inr (hw _ (List.mem_of_getElem? (i := 15) rfl))) (Or.inl (hw _ (List.mem_of_getElem? (i := 24) rfl))) (by decide) (t := (.array .long)) (t' := .int) (by decide) (by decide)))
    replace Fw := Fw.other W3 (Or.inr (slot_ne (Or.inr (hw _ (List.mem_of_getElem? (i := 17) rfl))) (Or.inl (hw _ (List.mem_of_getElem? (i := 24) rfl))) (by decide) (t := (.array .int)) (t' := .int) (by decide) (by decide)))
    replace AV := AV.other W3 (Ne.symm ne1)
    replace AH := AH.other W3 (Ne.symm ne2)
    replace AW := AW.other W3 (Ne.symm ne3)
    show own_Fin _ _ _ _ _ _ _ (T3.setTop (mkF m 38 #[.val (.ref x0), .val (.int p1)] []))
    exact own_retV X3 hx hlk e3 hret (hb hby d12_38) (by decide) (by decide) ⟨rfl, N3, ZW3, ⟨E, Fs, Fc, Fv, Fh, Fw, AV, AH, AW, EV, ⟨ne1, ne2, ne3, ne4, ne5, ne6⟩, go, ga1, ga2, ga3⟩, KW3⟩
  | succ d ih =>
    intro i p1 T0 locs h0 X0 N0 Z0 e0 hi hp E Fs Fc Fv Fh Fw AV AH AW EV K
    show own_Fin _ _ _ _ _ _ _ (T0.setTop (mkF m 2 #[.val (.ref x0), .val (.int p1)] []))
    refine own_of (fun _ kk => XS.iloadN X0.here hx rfl (hb hby d12_2) rfl kk) ?_
    show own_Fin _ _ _ _ _ _ _ (T0.setTop (mkF m 3 #[.val (.ref x0), .val (.int p1)] [(.int p1)]))
    refine own_of (fun _ kk => XS.aloadN X0.here hx rfl (hb hby d12_3) rfl rfl kk) ?_
    show own_Fin _ _ _ _ _ _ _ (T0.setTop (mkF m 4 #[.val (.ref x0), .val (.int p1)] [(.ref x0), (.int p1)]))
    refine own_getF X0 hx hZ hown (hw _ (List.mem_of_getElem? (i := 23) rfl)) e0 Fc (hb hby d12_4) ?_
    intro T1 X1 e1
    show own_Fin _ _ _ _ _ _ _ (T1.setTop (mkF m 7 #[.val (.ref x0), .val (.int p1)] [(.int wc), (.int p1)]))
    refine own_of (fun _ kk => XS.icmpNo X1.here hx rfl (hb hby d12_7) rfl (tlt (by rw [Int32.lt_iff_toInt_lt]; omega)).2.1 kk) ?_
    show own_Fin _ _ _ _ _ _ _ (T1.setTop (mkF m 10 #[.val (.ref x0), .val (.int p1)] []))
    refine own_of (fun _ kk => XS.aloadN X1.here hx rfl (hb hby d12_10) rfl rfl kk) ?_
    show own_Fin _ _ _ _ _ _ _ (T1.setTop (mkF m 11 #[.val (.ref x0), .val (.int p1)] [(.ref x0)]))
    refine own_getF X1 hx hZ hown (hw _ (List.mem_of_getElem? (i := 14) rfl)) e1 Fh (hb hby d12_11) ?_
    intro T2 X2 e2
    show own_Fin _ _ _ _ _ _ _ (T2.setTop (mkF m 14 #[.val (.ref x0), .val (.int p1)] [(.ref a2)]))
    refine own_of (fun _ kk => XS.aloadN X2.here hx rfl (hb hby d12_14) rfl rfl kk) ?_
    show own_Fin _ _ _ _ _ _ _ (T2.setTop (mkF m 15 #[.val (.ref x0), .val (.int p1)] [(.ref x0), (.ref a2)]))
    refine own_getF X2 hx hZ hown (hw _ (List.mem_of_getElem? (i := 16) rfl)) e2 Fw (hb hby d12_15) ?_
    intro T3 X3 e3
    show own_Fin _ _ _ _ _ _ _ (T3.setTop (mkF m 18 #[.val (.ref x0), .val (.int p1)] [(.ref a3), (.ref a2)]))
    refine own_of (fun _ kk => XS.iloadN X3.here hx rfl (hb hby d12_18) rfl kk) ?_
    show own_Fin _ _ _ _ _ _ _ (T3.setTop (mkF m 19 #[.val (.ref x0), .val (.int p1)] [(.int p1), (.ref a3), (.ref a2)]))
    refine own_iaload X3 hx hZ e3 AW (i := i) hp (hlt i (by omega)) (v := (.int (D i))) rfl (hb hby d12_19) ?_
    show own_Fin _ _ _ _ _ _ _ (T3.setTop (mkF m 20 #[.val (.ref x0), .val (.int p1)] [(.int (D i)), (.ref a2)]))
    refine own_of (fun _ kk => XS.lconst X3.here hx rfl (hb hby d12_20) kk) ?_
    show own_Fin _ _ _ _ _ _ _ (T3.setTop (mkF m 21 #[.val (.ref x0), .val (.int p1)] [(.long (0 : Int64)), (.int (D i)), (.ref a2)]))
    refine own_lastore X3 hx hZ e3 AH N0 ga2 (i := (dd i)) (hks i (by omega)).1 (hks i (by omega)).2 (hb hby d12_21) ?_
    intro T4 h4 l4 X4 N4 e4 W4 A4
    replace A4 : own_Arf Z h4 a2 .long nw (fun j => if j = (dd i) then (.long (0 : Int64)) else (fun j => .long (own_cw dd H i j)) j) := A4
    have KW4 := K.wr W4 (Or.inl (List.mem_of_getElem? (i := 1) rfl))
    have ZW4 : n0 ≤ h4.size := by rw [Wr.size W4]; exact Z0
    replace E := E.wr W4
    replace EV := EV.wr W4
    replace Fs := Fs.other W4 (Or.inl ne2)
    replace Fc := Fc.other W4 (Or.inl ne2)
    replace Fv := Fv.other W4 (Or.inl ne2)
    replace Fh := Fh.other W4 (Or.inl ne2)
    replace Fw := Fw.other W4 (Or.inl ne2)
    replace AV := AV.other W4 ne4
    replace AW := AW.other W4 (Ne.symm ne6)
    show own_Fin _ _ _ _ _ _ _ (T4.setTop (mkF m 22 #[.val (.ref x0), .val (.int p1)] []))
    refine own_of (fun _ kk => XS.iinc X4.here hx rfl (hb hby d12_22) rfl (l' := #[.val (.ref x0), .val (.int (p1 + (1 : Int32)))]) rfl kk) ?_
    show own_Fin _ _ _ _ _ _ _ (T4.setTop (mkF m 25 #[.val (.ref x0), .val (.int (p1 + (1 : Int32)))] []))
    refine own_of (fun _ kk => XS.goto X4.here hx rfl (pc0 := 25) (pc' := 2) rfl (hb hby d12_25) (by decide) (by decide) kk) ?_
    show own_Fin _ _ _ _ _ _ _ (T4.setTop (mkF m 2 #[.val (.ref x0), .val (.int (p1 + (1 : Int32)))] []))
    exact ih (i + 1) (p1 + 1) T4 _ h4 X4 N4 ZW4 e4 (by omega) (own_p1 hp (by omega)) E Fs Fc Fv Fh Fw AV (A4.congr fun j _ => own_cws dd H i j) AW EV KW4
set_option maxRecDepth 65536 in
set_option maxHeartbeats 40000000 in
theorem met12 (l : Launch) (Z : State) (a0 : Array Value) (hw : ∀ d ∈ tables_1, d.before a0 Z = true) (x0 : Addr) (cap : Nat) (nw : Nat) (sz : Int32) (wc : Int32) (a1 : Addr) (a2 : Addr) (a3 : Addr) (V : Nat → Int32) (H : Nat → Int64) (D : Nat → Int32) (dd : Nat → Nat) (km : Nat) (h0 : Heap) (n0 : Nat) (Z0 : n0 ≤ h0.size) (O : own_VS Z h0 n0 x0 cap nw sz wc a1 a2 a3 V H D) (hwc : wc.toInt = (km : Int)) (hkm : km ≤ 100) (hks : ∀ t, t < km → (D t).toInt = (dd t : Int) ∧ dd t < nw) (hlt : ∀ i, i < km → i < nw) :
    own_Met l Z (⟨"com/example/shardloom/shardloom/VertexSet", "clear", "()V"⟩ : MethodName) prog_91_method_5_code 2 none { frames := 0, cells := 0, slots := 0, locals := 0 } #[(.ref x0)] h0 (fun v h L => v = none ∧ Fr n0 L ∧ n0 ≤ h.size ∧ own_VS Z h n0 x0 cap nw 0 0 a1 a2 a3 V (own_cw dd H km) D ∧ Keep h0 h [x0, a2]) := by
  refine own_met pn_12 ?_
  intro p e s m below meth c T0 X0 hx hby hml hown hZ e0 hret hlk hnm
  rw [ef_12 m x0]
  have N0 := Fr.nil n0
  obtain ⟨E, Fs, Fc, Fv, Fh, Fw, AV, AH, AW, EV, ⟨ne1, ne2, ne3, ne4, ne5, ne6⟩, go, ga1, ga2, ga3⟩ := O
  show own_Fin _ _ _ _ _ _ _ (T0.setTop (mkF m 0 #[.val (.ref x0), .unset] []))
  refine own_of (fun _ kk => XS.iconst X0.here hx rfl (hb hby d12_0) kk) ?_
  show own_Fin _ _ _ _ _ _ _ (T0.setTop (mkF m 1 #[.val (.ref x0), .unset] [(.int (0 : Int32))]))
  refine own_of (fun _ kk => XS.istoreN X0.here hx rfl (hb hby d12_1) rfl (l' := #[.val (.ref x0), .val (.int (0 : Int32))]) rfl kk) ?_
  show own_Fin _ _ _ _ _ _ _ (T0.setTop (mkF m 2 #[.val (.ref x0), .val (.int (0 : Int32))] []))
  exact own_loopC l Z a0 hw x0 cap nw sz wc a1 a2 a3 V H D dd km h0 n0 hx hby hml hown hZ hret hlk hwc hkm hks ne1 ne2 ne3 ne4 ne5 ne6 go ga1 ga2 ga3 hlt km 0 0 T0 _ h0 X0 N0 Z0 e0 (by omega) (by decide) E Fs Fc Fv Fh Fw AV (AH.congr fun j _ => congrArg Value.long (own_cw0 dd H j)) AW EV (Keep.refl h0 _)
def own_f13 (x0 : Int32) (x1 : Int32) : Int32 := (if x1 < x0 then x1 else x0)
set_option maxRecDepth 65536 in
set_option maxHeartbeats 40000000 in
theorem met13 (l : Launch) (Z : State) (a0 : Array Value) (hw : ∀ d ∈ tables_1, d.before a0 Z = true) (x0 : Int32) (x1 : Int32) (h0 : Heap) :
    own_Met l Z (⟨"java/lang/Math", "min", "(II)I"⟩ : MethodName) jdk_29_method_69_code 2 (some .int) { frames := 0, cells := 0, slots := 0, locals := 0 } #[(.int x0), (.int x1)] h0 (own_Pure (.int (own_f13 x0 x1)) h0) := by
  refine own_met pn_13 ?_
  intro p e s m below meth c T0 X0 hx hby hml hown hZ e0 hret hlk hnm
  rw [ef_13 m x0 x1]
  show own_Fin _ _ _ _ _ _ _ (T0.setTop (mkF m 0 #[.val (.int x0), .val (.int x1)] []))
  refine own_of (fun _ kk => XS.iloadN X0.here hx rfl (hb hby d13_0) rfl kk) ?_
  show own_Fin _ _ _ _ _ _ _ (T0.setTop (mkF m 1 #[.val (.int x0), .val (.int x1)] [(.int x0)]))
  refine own_of (fun _ kk => XS.iloadN X0.here hx rfl (hb hby d13_1) rfl kk) ?_
  show own_Fin _ _ _ _ _ _ _ (T0.setTop (mkF m 2 #[.val (.int x0), .val (.int x1)] [(.int x1), (.int x0)]))
  suffices k1 : own_Fin _ _ _ _ _ _ _ (T0.setTop (mkF m 10 #[.val (.int x0), .val (.int x1)] [(.int (if x1 < x0 then x1 else x0))])) by
    by_cases c2 : x1 < x0
    · refine own_of (fun _ kk => XS.icmpYes X0.here hx rfl (pc0 := 2) (pc' := 9) rfl (hb hby d13_2) rfl (tlt c2).2.2.1 (by decide) (by decide) kk) ?_
      show own_Fin _ _ _ _ _ _ _ (T0.setTop (mkF m 9 #[.val (.int x0), .val (.int x1)] []))
      refine own_of (fun _ kk => XS.iloadN X0.here hx rfl (hb hby d13_9) rfl kk) ?_
      show own_Fin _ _ _ _ _ _ _ (T0.setTop (mkF m 10 #[.val (.int x0), .val (.int x1)] [(.int x1)]))
      simp only [if_pos c2] at k1 ⊢
      exact k1
    · refine own_of (fun _ kk => XS.icmpNo X0.here hx rfl (hb hby d13_2) rfl (flt c2).2.2.1 kk) ?_
      show own_Fin _ _ _ _ _ _ _ (T0.setTop (mkF m 5 #[.val (.int x0), .val (.int x1)] []))
      refine own_of (fun _ kk => XS.iloadN X0.here hx rfl (hb hby d13_5) rfl kk) ?_
      show own_Fin _ _ _ _ _ _ _ (T0.setTop (mkF m 6 #[.val (.int x0), .val (.int x1)] [(.int x0)]))
      refine own_of (fun _ kk => XS.goto X0.here hx rfl (pc0 := 6) (pc' := 10) rfl (hb hby d13_6) (by decide) (by decide) kk) ?_
      show own_Fin _ _ _ _ _ _ _ (T0.setTop (mkF m 10 #[.val (.int x0), .val (.int x1)] [(.int x0)]))
      simp only [if_neg c2] at k1 ⊢
      exact k1
  show own_Fin _ _ _ _ _ _ _ (T0.setTop (mkF m 10 #[.val (.int x0), .val (.int x1)] [(.int (if x1 < x0 then x1 else x0))]))
  exact own_retI X0 hx hlk e0 hret (hb hby d13_10) (by decide) (by decide) ⟨by first | rfl | (simp only [own_f13]; done), rfl, rfl⟩
def own_f14 (x0 : Int32) (x1 : Int32) : Int32 := (if x0 < x1 then x1 else x0)
set_option maxRecDepth 65536 in
set_option maxHeartbeats 40000000 in
theorem met14 (l : Launch) (Z : State) (a0 : Array Value) (hw : ∀ d ∈ tables_1, d.before a0 Z = true) (x0 : Int32) (x1 : Int32) (h0 : Heap) :
    own_Met l Z (⟨"java/lang/Math", "max", "(II)I"⟩ : MethodName) jdk_29_method_65_code 2 (some .int) { frames := 0, cells := 0, slots := 0, locals := 0 } #[(.int x0), (.int x1)] h0 (own_Pure (.int (own_f14 x0 x1)) h0) := by
  refine own_met pn_14 ?_
  intro p e s m below meth c T0 X0 hx hby hml hown hZ e0 hret hlk hnm
  rw [ef_14 m x0 x1]
  show own_Fin _ _ _ _ _ _ _ (T0.setTop (mkF m 0 #[.val (.int x0), .val (.int x1)] []))
  refine own_of (fun _ kk => XS.iloadN X0.here hx rfl (hb hby d14_0) rfl kk) ?_
  show own_Fin _ _ _ _ _ _ _ (T0.setTop (mkF m 1 #[.val (.int x0), .val (.int x1)] [(.int x0)]))
  refine own_of (fun _ kk => XS.iloadN X0.here hx rfl (hb hby d14_1) rfl kk) ?_
  show own_Fin _ _ _ _ _ _ _ (T0.setTop (mkF m 2 #[.val (.int x0), .val (.int x1)] [(.int x1), (.int x0)]))
  suffices k1 : own_Fin _ _ _ _ _ _ _ (T0.setTop (mkF m 10 #[.val (.int x0), .val (.int x1)] [(.int (if x0 < x1 then x1 else x0))])) by
    by_cases c2 : x0 < x1
    · refine own_of (fun _ kk => XS.icmpYes X0.here hx rfl (pc0 := 2) (pc' := 9) rfl (hb hby d14_2) rfl (tlt c2).1 (by decide) (by decide) kk) ?_
      show own_Fin _ _ _ _ _ _ _ (T0.setTop (mkF m 9 #[.val (.int x0), .val (.int x1)] []))
      refine own_of (fun _ kk => XS.iloadN X0.here hx rfl (hb hby d14_9) rfl kk) ?_
      show own_Fin _ _ _ _ _ _ _ (T0.setTop (mkF m 10 #[.val (.int x0), .val (.int x1)] [(.int x1)]))
      simp only [if_pos c2] at k1 ⊢
      exact k1
    · refine own_of (fun _ kk => XS.icmpNo X0.here hx rfl (hb hby d14_2) rfl (flt c2).1 kk) ?_
      show own_Fin _ _ _ _ _ _ _ (T0.setTop (mkF m 5 #[.val (.int x0), .val (.int x1)] []))
      refine own_of (fun _ kk => XS.iloadN X0.here hx rfl (hb hby d14_5) rfl kk) ?_
      show own_Fin _ _ _ _ _ _ _ (T0.setTop (mkF m 6 #[.val (.int x0), .val (.int x1)] [(.int x0)]))
      refine own_of (fun _ kk => XS.goto X0.here hx rfl (pc0 := 6) (pc' := 10) rfl (hb hby d14_6) (by decide) (by decide) kk) ?_
      show own_Fin _ _ _ _ _ _ _ (T0.setTop (mkF m 10 #[.val (.int x0), .val (.int x1)] [(.int x0)]))
      simp only [if_neg c2] at k1 ⊢
      exact k1
  show own_Fin _ _ _ _ _ _ _ (T0.setTop (mkF m 10 #[.val (.int x0), .val (.int x1)] [(.int (if x0 < x1 then x1 else x0))]))
  exact own_retI X0 hx hlk e0 hret (hb hby d14_10) (by decide) (by decide) ⟨by first | rfl | (simp only [own_f14]; done), rfl, rfl⟩
theorem own_same {x y : Int32} {n k : Nat} (hx : x.toInt = (n : Int)) (hy : y.toInt = (k : Int)) (h : y = x) : k = n := by subst h; omega
theorem own_minEq {x y : Int32} {n k : Nat} (hx : x.toInt = (n : Int)) (hy : y.toInt = (k : Int)) (h : k ≤ n) : own_f13 x y = y := by
  unfold own_f13
  by_cases q : y < x
  · rw [if_pos q]
  · rw [if_neg q]
    rw [Int32.lt_iff_toInt_lt] at q
    exact Int32.toInt_inj.mp (by omega)
set_option maxRecDepth 65536 in
set_option maxHeartbeats 40000000 in
theorem met17 (l : Launch) (Z : State) (a0 : Array Value) (hw : ∀ d ∈ tables_1, d.before a0 Z = true) (x0 : Addr) (x1 : Int32) (cap : Nat) (n : Nat) (zc : Int32) (f : Nat → Int32) (h0 : Heap) (n0 : Nat) (Z0 : n0 ≤ h0.size) (A : own_Arf Z h0 x0 .int cap (fun j => .int (f j))) (E : Exa Z h0 x0 "[I") (ge : n0 ≤ x0) (hzc : zc.toInt = (cap : Int)) (hcap : cap ≤ 200) (hx1 : x1.toInt = (n : Int)) (hle : n ≤ cap) :
    own_Met l Z (⟨"java/util/Arrays", "copyOf", "([II)[I"⟩ : MethodName) jdk_65_method_123_code 3 (some (.array .int)) { frames := 1, cells := 1, slots := 200, locals := 18 } #[(.ref x0), (.int x1)] h0 (fun v h L => ∃ b : Addr, v = some (.ref b) ∧ Fr n0 L ∧ n0 ≤ h.size ∧ n0 ≤ b ∧ h0.size ≤ b ∧ Keep h0 h [] ∧ ∃ f' : Nat → Int32, own_Arf Z h b .int n (fun j => .int (f' j)) ∧ ∀ j, j < n → f' j = f j) := by
  refine own_met pn_17 ?_
  intro p e s m below meth c T0 X0 hx hby hml hown hZ e0 hret hlk hnm
  rw [ef_17 m x0 x1]
  have N0 := Fr.nil n0
  have K := Keep.refl h0 ([] : List Addr)
  show own_Fin _ _ _ _ _ _ _ (T0.setTop (mkF m 0 #[.val (.ref x0), .val (.int x1), .unset] []))
  refine own_of (fun _ kk => XS.iloadN X0.here hx rfl (hb hby d17_0) rfl kk) ?_
  show own_Fin _ _ _ _ _ _ _ (T0.setTop (mkF m 1 #[.val (.ref x0), .val (.int x1), .unset] [(.int x1)]))
  refine own_of (fun _ kk => XS.aloadN X0.here hx rfl (hb hby d17_1) rfl rfl kk) ?_
  show own_Fin _ _ _ _ _ _ _ (T0.setTop (mkF m 2 #[.val (.ref x0), .val (.int x1), .unset] [(.ref x0), (.int x1)]))
  refine own_arraylength X0 hx hZ e0 A (z := zc) hzc (hb hby d17_2) ?_
  show own_Fin _ _ _ _ _ _ _ (T0.setTop (mkF m 3 #[.val (.ref x0), .val (.int x1), .unset] [(.int zc), (.int x1)]))
  by_cases c3 : x1 = zc
  · refine own_of (fun _ kk => XS.icmpNo X0.here hx rfl (hb hby d17_3) rfl (teq c3).2 kk) ?_
    show own_Fin _ _ _ _ _ _ _ (T0.setTop (mkF m 6 #[.val (.ref x0), .val (.int x1), .unset] []))
    refine own_of (fun _ kk => XS.aloadN X0.here hx rfl (hb hby d17_6) rfl rfl kk) ?_
    show own_Fin _ _ _ _ _ _ _ (T0.setTop (mkF m 7 #[.val (.ref x0), .val (.int x1), .unset] [(.ref x0)]))
    refine own_clone X0 hx hZ hown (hw _ (List.mem_of_getElem? (i := 80) rfl)) (hw _ (List.mem_of_getElem? (i := 81) rfl)) (hw _ (List.mem_of_getElem? (i := 85) rfl)) (hw _ (List.mem_of_getElem? (i := 83) rfl)) (hw _ (List.mem_of_getElem? (i := 84) rfl)) (hw _ (List.mem_of_getElem? (i := 86) rfl)) e0 A (z := zc) hzc E (by rw [hml]; rfl) (hb hby d17_7) (by decide) (W := 0) (cap := 200) (Nat.le_of_eq rfl) (by decide) hcap (by decide) (by decide) ?_
    intro T1 h1 b1 X1 e1 E1 g1 A1 B1
    have ne_x0_b1 : x0 ≠ b1 := Nat.ne_of_lt (by rw [g1]; exact A.lt)
    replace A := A.ext E1
    replace E := E.ext E1
    have sz_b1 : h0.size ≤ b1 := by rw [g1]; exact K.1
    have KE1 := K.ext E1
    have Z1 : n0 ≤ h1.size := Nat.le_trans Z0 E1.1
    have ge_b1 : n0 ≤ b1 := by rw [g1]; exact Z0
    show own_Fin _ _ _ _ _ _ _ (T1.setTop (mkF m 10 #[.val (.ref x0), .val (.int x1), .unset] [(.ref b1)]))
    refine own_cast X1 hx hZ hown (hw _ (List.mem_of_getElem? (i := 87) rfl)) e1 B1 (hb hby d17_10) ?_
    intro T2 X2 e2
    show own_Fin _ _ _ _ _ _ _ (T2.setTop (mkF m 13 #[.val (.ref x0), .val (.int x1), .unset] [(.ref b1)]))
    exact own_retA X2 hx hlk e2 rfl hret rfl (hb hby d17_13) (by decide) (by decide) ⟨b1, rfl, N0, Z1, ge_b1, sz_b1, KE1, f, (by obtain rfl : n = cap := own_same hzc hx1 c3; exact A1), fun j _ => rfl⟩
  · refine own_of (fun _ kk => XS.icmpYes X0.here hx rfl (pc0 := 3) (pc' := 14) rfl (hb hby d17_3) rfl (feq c3).2 (by decide) (by decide) kk) ?_
    show own_Fin _ _ _ _ _ _ _ (T0.setTop (mkF m 14 #[.val (.ref x0), .val (.int x1), .unset] []))
    refine own_of (fun _ kk => XS.iloadN X0.here hx rfl (hb hby d17_14) rfl kk) ?_
    show own_Fin _ _ _ _ _ _ _ (T0.setTop (mkF m 15 #[.val (.ref x0), .val (.int x1), .unset] [(.int x1)]))
    refine own_newP X0 hx hZ (hw _ (List.mem_of_getElem? (i := 10) rfl)) e0 (hb hby d17_15) (n := n) hx1 (cap := 200) (by omega) (by decide) (by decide) (by decide) ?_
    intro T3 h3 b3 X3 e3 E3 g3 A3
    have ne_x0_b3 : x0 ≠ b3 := Nat.ne_of_lt (by rw [g3]; exact A.lt)
    replace A := A.ext E3
    replace E := E.ext E3
    have sz_b3 : h0.size ≤ b3 := by rw [g3]; exact K.1
    have KE3 := K.ext E3
    have Z3 : n0 ≤ h3.size := Nat.le_trans Z0 E3.1
    have ge_b3 : n0 ≤ b3 := by rw [g3]; exact Z0
    replace A3 : own_Arf Z h3 b3 .int n (fun _ => (.int (0 : Int32))) := A3
    show own_Fin _ _ _ _ _ _ _ (T3.setTop (mkF m 17 #[.val (.ref x0), .val (.int x1), .unset] [(.ref b3)]))
    refine own_of (fun _ kk => XS.astoreN X3.here hx rfl (hb hby d17_17) rfl rfl (l' := #[.val (.ref x0), .val (.int x1), .val (.ref b3)]) rfl kk) ?_
    show own_Fin _ _ _ _ _ _ _ (T3.setTop (mkF m 18 #[.val (.ref x0), .val (.int x1), .val (.ref b3)] []))
    refine own_of (fun _ kk => XS.aloadN X3.here hx rfl (hb hby d17_18) rfl rfl kk) ?_
    show own_Fin _ _ _ _ _ _ _ (T3.setTop (mkF m 19 #[.val (.ref x0), .val (.int x1), .val (.ref b3)] [(.ref x0)]))
    refine own_of (fun _ kk => XS.iconst X3.here hx rfl (hb hby d17_19) kk) ?_
    show own_Fin _ _ _ _ _ _ _ (T3.setTop (mkF m 20 #[.val (.ref x0), .val (.int x1), .val (.ref b3)] [(.int (0 : Int32)), (.ref x0)]))
    refine own_of (fun _ kk => XS.aloadN X3.here hx rfl (hb hby d17_20) rfl rfl kk) ?_
    show own_Fin _ _ _ _ _ _ _ (T3.setTop (mkF m 21 #[.val (.ref x0), .val (.int x1), .val (.ref b3)] [(.ref b3), (.int (0 : Int32)), (.ref x0)]))
    refine own_of (fun _ kk => XS.iconst X3.here hx rfl (hb hby d17_21) kk) ?_
    show own_Fin _ _ _ _ _ _ _ (T3.setTop (mkF m 22 #[.val (.ref x0), .val (.int x1), .val (.ref b3)] [(.int (0 : Int32)), (.ref b3), (.int (0 : Int32)), (.ref x0)]))
    refine own_of (fun _ kk => XS.aloadN X3.here hx rfl (hb hby d17_22) rfl rfl kk) ?_
    show own_Fin _ _ _ _ _ _ _ (T3.setTop (mkF m 23 #[.val (.ref x0), .val (.int x1), .val (.ref b3)] [(.ref x0), (.int (0 : Int32)), (.ref b3), (.int (0 : Int32)), (.ref x0)]))
    refine own_arraylength X3 hx hZ e3 A (z := zc) hzc (hb hby d17_23) ?_
    show own_Fin _ _ _ _ _ _ _ (T3.setTop (mkF m 24 #[.val (.ref x0), .val (.int x1), .val (.ref b3)] [(.int zc), (.int (0 : Int32)), (.ref b3), (.int (0 : Int32)), (.ref x0)]))
    refine own_of (fun _ kk => XS.iloadN X3.here hx rfl (hb hby d17_24) rfl kk) ?_
    show own_Fin _ _ _ _ _ _ _ (T3.setTop (mkF m 25 #[.val (.ref x0), .val (.int x1), .val (.ref b3)] [(.int x1), (.int zc), (.int (0 : Int32)), (.ref b3), (.int (0 : Int32)), (.ref x0)]))
    refine own_callP X3 hx hZ hown (hw _ (List.mem_of_getElem? (i := 90) rfl)) (hw _ (List.mem_of_getElem? (i := 62) rfl)) (hw _ (List.mem_of_getElem? (i := 63) rfl)) (hw _ (List.mem_of_getElem? (i := 64) rfl)) (by decide) e3 (argsL := [(.int zc), (.int x1)]) (rv := (.int (own_f13 zc x1))) (met13 l Z a0 hw zc x1 h3) (W := 4) (by decide) (by decide) (by decide) (by decide) (by rw [hml]; rfl) pd_4 rfl (rest := [(.int (0 : Int32)), (.ref b3), (.int (0 : Int32)), (.ref x0)]) rfl (Nat.le_of_eq rfl) (hb hby d17_25) ?_
    intro T4 X4 e4
    show own_Fin _ _ _ _ _ _ _ (T4.setTop (mkF m 28 #[.val (.ref x0), .val (.int x1), .val (.ref b3)] [(.int (own_f13 zc x1)), (.int (0 : Int32)), (.ref b3), (.int (0 : Int32)), (.ref x0)]))
    refine own_acopy X4 hx hZ hown (hw _ (List.mem_of_getElem? (i := 91) rfl)) (hw _ (List.mem_of_getElem? (i := 94) rfl)) (hw _ (List.mem_of_getElem? (i := 92) rfl)) (hw _ (List.mem_of_getElem? (i := 93) rfl)) e4 A (f' := fun _ => 0) A3 (k := n) (z := zc) (z' := x1) (q := (own_f13 zc x1)) hzc hx1 (by rw [own_minEq hzc hx1 hle]; exact hx1) (by omega) (Nat.le_refl _) N0 ge_b3 (by rw [hml]; rfl) (hb hby d17_28) (by decide) (W := 0) (Nat.le_of_eq rfl) (by decide) ?_
    intro T5 h5 l5 X5 N5 e5 K5 A5
    have Z5 : n0 ≤ h5.size := Nat.le_trans Z3 K5.1
    have KK5 := KE3.trans K5 (fun x hx => Or.inr (by rw [List.mem_singleton.mp hx]; exact sz_b3))
    show own_Fin _ _ _ _ _ _ _ (T5.setTop (mkF m 31 #[.val (.ref x0), .val (.int x1), .val (.ref b3)] []))
    refine own_of (fun _ kk => XS.aloadN X5.here hx rfl (hb hby d17_31) rfl rfl kk) ?_
    show own_Fin _ _ _ _ _ _ _ (T5.setTop (mkF m 32 #[.val (.ref x0), .val (.int x1), .val (.ref b3)] [(.ref b3)]))
    exact own_retA X5 hx hlk e5 rfl hret rfl (hb hby d17_32) (by decide) (by decide) ⟨b3, rfl, N5, Z5, ge_b3, sz_b3, KK5, _, A5, fun j hj => if_pos hj⟩
set_option maxRecDepth 65536 in
set_option maxHeartbeats 40000000 in
theorem met16 (l : Launch) (Z : State) (a0 : Array Value) (hw : ∀ d ∈ tables_1, d.before a0 Z = true) (x0 : Addr) (cap : Nat) (nw : Nat) (sz : Int32) (wc : Int32) (a1 : Addr) (a2 : Addr) (a3 : Addr) (V : Nat → Int32) (H : Nat → Int64) (D : Nat → Int32) (kn : Nat) (km : Nat) (ee : Nat → Nat) (dd : Nat → Nat) (zc : Int32) (h0 : Heap) (n0 : Nat) (Z0 : n0 ≤ h0.size) (O : own_VS Z h0 n0 x0 cap nw sz wc a1 a2 a3 V H D) (hsz : sz.toInt = (kn : Int)) (hwc : wc.toInt = (km : Int)) (I : own_Inv cap nw kn km ee dd V D H) (hzc : zc.toInt = (cap : Int)) (hcap : cap ≤ 200) (hle : kn ≤ cap) (hk3 : kn ≤ 3) (hlt : ∀ i, i < km → i < nw) :
    own_Met l Z (⟨"com/example/shardloom/shardloom/VertexSet", "takeAll", "()[I"⟩ : MethodName) prog_91_method_3_code 2 (some (.array .int)) { frames := 2, cells := 1, slots := 200, locals := 32 } #[(.ref x0)] h0 (fun v h L => ∃ b : Addr, v = some (.ref b) ∧ Fr n0 L ∧ n0 ≤ h.size ∧ n0 ≤ b ∧ ∃ f' : Nat → Int32, own_Arf Z h b .int kn (fun j => .int (f' j)) ∧ (∀ j, j < kn → f' j = V j) ∧ ∃ H' : Nat → Int64, own_VS Z h n0 x0 cap nw 0 0 a1 a2 a3 V H' D ∧ own_Inv cap nw 0 0 ee dd V D H') := by
  refine own_met pn_16 ?_
  intro p e s m below meth c T0 X0 hx hby hml hown hZ e0 hret hlk hnm
  rw [ef_16 m x0]
  have N0 := Fr.nil n0
  obtain ⟨E, Fs, Fc, Fv, Fh, Fw, AV, AH, AW, EV, ⟨ne1, ne2, ne3, ne4, ne5, ne6⟩, go, ga1, ga2, ga3⟩ := O
  have hmn := I.2.2.2.2.2.2.1
  show own_Fin _ _ _ _ _ _ _ (T0.setTop (mkF m 0 #[.val (.ref x0), .unset] []))
  refine own_of (fun _ kk => XS.aloadN X0.here hx rfl (hb hby d16_0) rfl rfl kk) ?_
  show own_Fin _ _ _ _ _ _ _ (T0.setTop (mkF m 1 #[.val (.ref x0), .unset] [(.ref x0)]))
  refine own_getF X0 hx hZ hown (hw _ (List.mem_of_getElem? (i := 11) rfl)) e0 Fv (hb hby d16_1) ?_
  intro T1 X1 e1
  show own_Fin _ _ _ _ _ _ _ (T1.setTop (mkF m 4 #[.val (.ref x0), .unset] [(.ref a1)]))
  refine own_of (fun _ kk => XS.aloadN X1.here hx rfl (hb hby d16_4) rfl rfl kk) ?_
  show own_Fin _ _ _ _ _ _ _ (T1.setTop (mkF m 5 #[.val (.ref x0), .unset] [(.ref x0), (.ref a1)]))
  refine own_getF X1 hx hZ hown (hw _ (List.mem_of_getElem? (i := 25) rfl)) e1 Fs (hb hby d16_5) ?_
  intro T2 X2 e2
  show own_Fin _ _ _ _ _ _ _ (T2.setTop (mkF m 8 #[.val (.ref x0), .unset] [(.int sz), (.ref a1)]))
  refine own_callS X2 hx hZ hown (hw _ (List.mem_of_getElem? (i := 77) rfl)) (hw _ (List.mem_of_getElem? (i := 78) rfl)) (hw _ (List.mem_of_getElem? (i := 34) rfl)) (hw _ (List.mem_of_getElem? (i := 79) rfl)) (by decide) e2 (argsL := [(.ref a1), (.int sz)]) (met17 l Z a0 hw a1 sz cap kn zc V h0 n0 Z0 AV EV ga1 hzc hcap hsz hle) (W := 0) (by decide) (by decide) (by decide) (by decide) (by rw [hml]; rfl) pd_9 rfl (rest := []) rfl (Nat.le_of_eq rfl) (hb hby d16_8) ?_
  intro v3 T3 h3 L3 X3 e3 q3
  obtain ⟨b, rfl, N3q, Z3, gb, szb, K3, f', AB, hf'⟩ := q3
  have N3 := Fr.app N0 N3q
  show own_Fin _ _ _ _ _ _ _ (T3.setTop (mkF m 11 #[.val (.ref x0), .unset] [(.ref b)]))
  have O := own_VS.keep (⟨E, Fs, Fc, Fv, Fh, Fw, AV, AH, AW, EV, ⟨ne1, ne2, ne3, ne4, ne5, ne6⟩, go, ga1, ga2, ga3⟩ : own_VS Z h0 n0 x0 cap nw sz wc a1 a2 a3 V H D) K3
  refine own_of (fun _ kk => XS.astoreN X3.here hx rfl (hb hby d16_11) rfl rfl (l' := #[.val (.ref x0), .val (.ref b)]) rfl kk) ?_
  show own_Fin _ _ _ _ _ _ _ (T3.setTop (mkF m 12 #[.val (.ref x0), .val (.ref b)] []))
  refine own_of (fun _ kk => XS.aloadN X3.here hx rfl (hb hby d16_12) rfl rfl kk) ?_
  show own_Fin _ _ _ _ _ _ _ (T3.setTop (mkF m 13 #[.val (.ref x0), .val (.ref b)] [(.ref x0)]))
  refine own_callX X3 hx hZ (y := (⟨"com/example/shardloom/shardloom/VertexSet", "clear", "()V"⟩ : MethodName)) hown (hw _ (List.mem_of_getElem? (i := 57) rfl)) (hw _ (List.mem_of_getElem? (i := 58) rfl)) (hw _ (List.mem_of_getElem? (i := 59) rfl)) (hw _ (List.mem_of_getElem? (i := 2) rfl)) (hw _ (List.mem_of_getElem? (i := 3) rfl)) (hw _ (List.mem_of_getElem? (i := 60) rfl)) (by decide) e3 O.1 (argsL := []) (met12 l Z a0 hw x0 cap nw sz wc a1 a2 a3 V H D dd km h3 n0 Z3 O hwc (by omega) (fun t ht => I.2.2.1 t ht) hlt) (W := 0) (by decide) (by decide) (by decide) (by decide) (by rw [hml]; rfl) pd_0 rfl (rest := []) rfl (Nat.le_of_eq rfl) (hb hby d16_13) ?_
  intro v4 T4 h4 L4 X4 e4 q4
  obtain ⟨rfl, N4q, Z4, O4, K4⟩ := q4
  have N4 := Fr.app N3 N4q
  show own_Fin _ _ _ _ _ _ _ (T4.setTop (mkF m 16 #[.val (.ref x0), .val (.ref b)] []))
  refine own_of (fun _ kk => XS.aloadN X4.here hx rfl (hb hby d16_16) rfl rfl kk) ?_
  show own_Fin _ _ _ _ _ _ _ (T4.setTop (mkF m 17 #[.val (.ref x0), .val (.ref b)] [(.ref b)]))
  exact own_retA X4 hx hlk e4 rfl hret rfl (hb hby d16_17) (by decide) (by decide) ⟨b, rfl, N4, Z4, gb, f', (AB.keep K4 (ninS (Ne.symm (Nat.ne_of_lt (Nat.lt_of_lt_of_le E.lt szb))) (ninS (Ne.symm (Nat.ne_of_lt (Nat.lt_of_lt_of_le AH.lt szb))) nin0))), hf', _, O4, I.clean⟩
set_option maxRecDepth 65536 in
set_option maxHeartbeats 40000000 in
theorem met15_1 (l : Launch) (Z : State) (a0 : Array Value) (hw : ∀ d ∈ tables_1, d.before a0 Z = true) (x0 : Addr) (x1 : Addr) (x2 : Int32) (f : Nat → Int32) (g : Nat → Int32) (h0 : Heap) (n0 : Nat) (Z0 : n0 ≤ h0.size) (hx2 : x2 = 1) (A : own_Arf Z h0 x0 .int 1 (fun j => .int (f j))) (G : own_Arf Z h0 x1 .int 3 (fun j => .int (g j))) (hfg : ∀ j, j < 1 → f j = g j) :
    own_Met l Z (⟨"com/example/shardloom/shardloom/VertexSetAddPinLaw", "same", "([I[II)Z"⟩ : MethodName) method_3_code 3 (some .boolean) { frames := 0, cells := 0, slots := 0, locals := 0 } #[(.ref x0), (.ref x1), (.int x2)] h0 (fun v h L => own_Pure (.int 1) h0 v h L) := by
  refine own_met pn_15 ?_
  intro p e s m below meth c T0 X0 hx hby hml hown hZ e0 hret hlk hnm
  rw [ef_15 m x0 x1 x2]
  have N0 := Fr.nil n0
  subst hx2
  show own_Fin _ _ _ _ _ _ _ (T0.setTop (mkF m 0 #[.val (.ref x0), .val (.ref x1), .val (.int (1 : Int32))] []))
  refine own_of (fun _ kk => XS.aloadN X0.here hx rfl (hb hby d15_0) rfl rfl kk) ?_
  show own_Fin _ _ _ _ _ _ _ (T0.setTop (mkF m 1 #[.val (.ref x0), .val (.ref x1), .val (.int (1 : Int32))] [(.ref x0)]))
  refine own_arraylength X0 hx hZ e0 A (z := (1 : Int32)) (by decide) (hb hby d15_1) ?_
  show own_Fin _ _ _ _ _ _ _ (T0.setTop (mkF m 2 #[.val (.ref x0), .val (.ref x1), .val (.int (1 : Int32))] [(.int (1 : Int32))]))
  refine own_of (fun _ kk => XS.iloadN X0.here hx rfl (hb hby d15_2) rfl kk) ?_
  show own_Fin _ _ _ _ _ _ _ (T0.setTop (mkF m 3 #[.val (.ref x0), .val (.ref x1), .val (.int (1 : Int32))] [(.int (1 : Int32)), (.int (1 : Int32))]))
  refine own_of (fun _ kk => XS.icmpYes X0.here hx rfl (pc0 := 3) (pc' := 8) rfl (hb hby d15_3) rfl (teq (by decide : ((1 : Int32) = (1 : Int32)))).1 (by decide) (by decide) kk) ?_
  show own_Fin _ _ _ _ _ _ _ (T0.setTop (mkF m 8 #[.val (.ref x0), .val (.ref x1), .val (.int (1 : Int32))] []))
  refine own_of (fun _ kk => XS.iloadN X0.here hx rfl (hb hby d15_8) rfl kk) ?_
  show own_Fin _ _ _ _ _ _ _ (T0.setTop (mkF m 9 #[.val (.ref x0), .val (.ref x1), .val (.int (1 : Int32))] [(.int (1 : Int32))]))
  refine own_of (fun _ kk => XS.iconst X0.here hx rfl (hb hby d15_9) kk) ?_
  show own_Fin _ _ _ _ _ _ _ (T0.setTop (mkF m 10 #[.val (.ref x0), .val (.ref x1), .val (.int (1 : Int32))] [(.int (1 : Int32)), (.int (1 : Int32))]))
  refine own_of (fun _ kk => XS.icmpNo X0.here hx rfl (hb hby d15_10) rfl (flt (by decide : ¬ ((1 : Int32) < (1 : Int32)))).1 kk) ?_
  show own_Fin _ _ _ _ _ _ _ (T0.setTop (mkF m 13 #[.val (.ref x0), .val (.ref x1), .val (.int (1 : Int32))] []))
  refine own_of (fun _ kk => XS.aloadN X0.here hx rfl (hb hby d15_13) rfl rfl kk) ?_
  show own_Fin _ _ _ _ _ _ _ (T0.setTop (mkF m 14 #[.val (.ref x0), .val (.ref x1), .val (.int (1 : Int32))] [(.ref x0)]))
  refine own_of (fun _ kk => XS.iconst X0.here hx rfl (hb hby d15_14) kk) ?_
  show own_Fin _ _ _ _ _ _ _ (T0.setTop (mkF m 15 #[.val (.ref x0), .val (.ref x1), .val (.int (1 : Int32))] [(.int (0 : Int32)), (.ref x0)]))
  refine own_iaload X0 hx hZ e0 A (i := 0) (by decide) (by decide) (v := (.int (f 0))) rfl (hb hby d15_15) ?_
  show own_Fin _ _ _ _ _ _ _ (T0.setTop (mkF m 16 #[.val (.ref x0), .val (.ref x1), .val (.int (1 : Int32))] [(.int (f 0))]))
  refine own_of (fun _ kk => XS.aloadN X0.here hx rfl (hb hby d15_16) rfl rfl kk) ?_
  show own_Fin _ _ _ _ _ _ _ (T0.setTop (mkF m 17 #[.val (.ref x0), .val (.ref x1), .val (.int (1 : Int32))] [(.ref x1), (.int (f 0))]))
  refine own_of (fun _ kk => XS.iconst X0.here hx rfl (hb hby d15_17) kk) ?_
  show own_Fin _ _ _ _ _ _ _ (T0.setTop (mkF m 18 #[.val (.ref x0), .val (.ref x1), .val (.int (1 : Int32))] [(.int (0 : Int32)), (.ref x1), (.int (f 0))]))
  refine own_iaload X0 hx hZ e0 G (i := 0) (by decide) (by decide) (v := (.int (g 0))) rfl (hb hby d15_18) ?_
  show own_Fin _ _ _ _ _ _ _ (T0.setTop (mkF m 19 #[.val (.ref x0), .val (.ref x1), .val (.int (1 : Int32))] [(.int (g 0)), (.int (f 0))]))
  refine own_of (fun _ kk => XS.icmpYes X0.here hx rfl (pc0 := 19) (pc' := 24) rfl (hb hby d15_19) rfl (teq (hfg 0 (by decide))).1 (by decide) (by decide) kk) ?_
  show own_Fin _ _ _ _ _ _ _ (T0.setTop (mkF m 24 #[.val (.ref x0), .val (.ref x1), .val (.int (1 : Int32))] []))
  refine own_of (fun _ kk => XS.iloadN X0.here hx rfl (hb hby d15_24) rfl kk) ?_
  show own_Fin _ _ _ _ _ _ _ (T0.setTop (mkF m 25 #[.val (.ref x0), .val (.ref x1), .val (.int (1 : Int32))] [(.int (1 : Int32))]))
  refine own_of (fun _ kk => XS.iconst X0.here hx rfl (hb hby d15_25) kk) ?_
  show own_Fin _ _ _ _ _ _ _ (T0.setTop (mkF m 26 #[.val (.ref x0), .val (.ref x1), .val (.int (1 : Int32))] [(.int (2 : Int32)), (.int (1 : Int32))]))
  refine own_of (fun _ kk => XS.icmpYes X0.here hx rfl (pc0 := 26) (pc' := 40) rfl (hb hby d15_26) rfl (tlt (by decide : ((1 : Int32) < (2 : Int32)))).1 (by decide) (by decide) kk) ?_
  show own_Fin _ _ _ _ _ _ _ (T0.setTop (mkF m 40 #[.val (.ref x0), .val (.ref x1), .val (.int (1 : Int32))] []))
  refine own_of (fun _ kk => XS.iloadN X0.here hx rfl (hb hby d15_40) rfl kk) ?_
  show own_Fin _ _ _ _ _ _ _ (T0.setTop (mkF m 41 #[.val (.ref x0), .val (.ref x1), .val (.int (1 : Int32))] [(.int (1 : Int32))]))
  refine own_of (fun _ kk => XS.iconst X0.here hx rfl (hb hby d15_41) kk) ?_
  show own_Fin _ _ _ _ _ _ _ (T0.setTop (mkF m 42 #[.val (.ref x0), .val (.ref x1), .val (.int (1 : Int32))] [(.int (3 : Int32)), (.int (1 : Int32))]))
  refine own_of (fun _ kk => XS.icmpYes X0.here hx rfl (pc0 := 42) (pc' := 56) rfl (hb hby d15_42) rfl (tlt (by decide : ((1 : Int32) < (3 : Int32)))).1 (by decide) (by decide) kk) ?_
  show own_Fin _ _ _ _ _ _ _ (T0.setTop (mkF m 56 #[.val (.ref x0), .val (.ref x1), .val (.int (1 : Int32))] []))
  refine own_of (fun _ kk => XS.iconst X0.here hx rfl (hb hby d15_56) kk) ?_
  show own_Fin _ _ _ _ _ _ _ (T0.setTop (mkF m 57 #[.val (.ref x0), .val (.ref x1), .val (.int (1 : Int32))] [(.int (1 : Int32))]))
  exact own_retN X0 hx hlk e0 (t := .boolean) hret (by simp) (hb hby d15_57) (by decide) (by decide) (z' := (1 : Int32)) (by decide) ⟨rfl, rfl, rfl⟩
set_option maxRecDepth 65536 in
set_option maxHeartbeats 40000000 in
theorem met15_2 (l : Launch) (Z : State) (a0 : Array Value) (hw : ∀ d ∈ tables_1, d.before a0 Z = true) (x0 : Addr) (x1 : Addr) (x2 : Int32) (f : Nat → Int32) (g : Nat → Int32) (h0 : Heap) (n0 : Nat) (Z0 : n0 ≤ h0.size) (hx2 : x2 = 2) (A : own_Arf Z h0 x0 .int 2 (fun j => .int (f j))) (G : own_Arf Z h0 x1 .int 3 (fun j => .int (g j))) (hfg : ∀ j, j < 2 → f j = g j) :
    own_Met l Z (⟨"com/example/shardloom/shardloom/VertexSetAddPinLaw", "same", "([I[II)Z"⟩ : MethodName) method_3_code 3 (some .boolean) { frames := 0, cells := 0, slots := 0, locals := 0 } #[(.ref x0), (.ref x1), (.int x2)] h0 (fun v h L => own_Pure (.int 1) h0 v h L) := by
  refine own_met pn_15 ?_
  intro p e s m below meth c T0 X0 hx hby hml hown hZ e0 hret hlk hnm
  rw [ef_15 m x0 x1 x2]
  have N0 := Fr.nil n0
  subst hx2
  show own_Fin _ _ _ _ _ _ _ (T0.setTop (mkF m 0 #[.val (.ref x0), .val (.ref x1), .val (.int (2 : Int32))] []))
  refine own_of (fun _ kk => XS.aloadN X0.here hx rfl (hb hby d15_0) rfl rfl kk) ?_
  show own_Fin _ _ _ _ _ _ _ (T0.setTop (mkF m 1 #[.val (.ref x0), .val (.ref x1), .val (.int (2 : Int32))] [(.ref x0)]))
  refine own_arraylength X0 hx hZ e0 A (z := (2 : Int32)) (by decide) (hb hby d15_1) ?_
  show own_Fin _ _ _ _ _ _ _ (T0.setTop (mkF m 2 #[.val (.ref x0), .val (.ref x1), .val (.int (2 : Int32))] [(.int (2 : Int32))]))
  refine own_of (fun _ kk => XS.iloadN X0.here hx rfl (hb hby d15_2) rfl kk) ?_
  show own_Fin _ _ _ _ _ _ _ (T0.setTop (mkF m 3 #[.val (.ref x0), .val (.ref x1), .val (.int (2 : Int32))] [(.int (2 : Int32)), (.int (2 : Int32))]))
  refine own_of (fun _ kk => XS.icmpYes X0.here hx rfl (pc0 := 3) (pc' := 8) rfl (hb hby d15_3) rfl (teq (by decide : ((2 : Int32) = (2 : Int32)))).1 (by decide) (by decide) kk) ?_
  show own_Fin _ _ _ _ _ _ _ (T0.setTop (mkF m 8 #[.val (.ref x0), .val (.ref x1), .val (.int (2 : Int32))] []))
  refine own_of (fun _ kk => XS.iloadN X0.here hx rfl (hb hby d15_8) rfl kk) ?_
  show own_Fin _ _ _ _ _ _ _ (T0.setTop (mkF m 9 #[.val (.ref x0), .val (.ref x1), .val (.int (2 : Int32))] [(.int (2 : Int32))]))
  refine own_of (fun _ kk => XS.iconst X0.here hx rfl (hb hby d15_9) kk) ?_
  show own_Fin _ _ _ _ _ _ _ (T0.setTop (mkF m 10 #[.val (.ref x0), .val (.ref x1), .val (.int (2 : Int32))] [(.int (1 : Int32)), (.int (2 : Int32))]))
  refine own_of (fun _ kk => XS.icmpNo X0.here hx rfl (hb hby d15_10) rfl (flt (by decide : ¬ ((2 : Int32) < (1 : Int32)))).1 kk) ?_
  show own_Fin _ _ _ _ _ _ _ (T0.setTop (mkF m 13 #[.val (.ref x0), .val (.ref x1), .val (.int (2 : Int32))] []))
  refine own_of (fun _ kk => XS.aloadN X0.here hx rfl (hb hby d15_13) rfl rfl kk) ?_
  show own_Fin _ _ _ _ _ _ _ (T0.setTop (mkF m 14 #[.val (.ref x0), .val (.ref x1), .val (.int (2 : Int32))] [(.ref x0)]))
  refine own_of (fun _ kk => XS.iconst X0.here hx rfl (hb hby d15_14) kk) ?_
  show own_Fin _ _ _ _ _ _ _ (T0.setTop (mkF m 15 #[.val (.ref x0), .val (.ref x1), .val (.int (2 : Int32))] [(.int (0 : Int32)), (.ref x0)]))
  refine own_iaload X0 hx hZ e0 A (i := 0) (by decide) (by decide) (v := (.int (f 0))) rfl (hb hby d15_15) ?_
  show own_Fin _ _ _ _ _ _ _ (T0.setTop (mkF m 16 #[.val (.ref x0), .val (.ref x1), .val (.int (2 : Int32))] [(.int (f 0))]))
  refine own_of (fun _ kk => XS.aloadN X0.here hx rfl (hb hby d15_16) rfl rfl kk) ?_
  show own_Fin _ _ _ _ _ _ _ (T0.setTop (mkF m 17 #[.val (.ref x0), .val (.ref x1), .val (.int (2 : Int32))] [(.ref x1), (.int (f 0))]))
  refine own_of (fun _ kk => XS.iconst X0.here hx rfl (hb hby d15_17) kk) ?_
  show own_Fin _ _ _ _ _ _ _ (T0.setTop (mkF m 18 #[.val (.ref x0), .val (.ref x1), .val (.int (2 : Int32))] [(.int (0 : Int32)), (.ref x1), (.int (f 0))]))
  refine own_iaload X0 hx hZ e0 G (i := 0) (by decide) (by decide) (v := (.int (g 0))) rfl (hb hby d15_18) ?_
  show own_Fin _ _ _ _ _ _ _ (T0.setTop (mkF m 19 #[.val (.ref x0), .val (.ref x1), .val (.int (2 : Int32))] [(.int (g 0)), (.int (f 0))]))
  refine own_of (fun _ kk => XS.icmpYes X0.here hx rfl (pc0 := 19) (pc' := 24) rfl (hb hby d15_19) rfl (teq (hfg 0 (by decide))).1 (by decide) (by decide) kk) ?_
  show own_Fin _ _ _ _ _ _ _ (T0.setTop (mkF m 24 #[.val (.ref x0), .val (.ref x1), .val (.int (2 : Int32))] []))
  refine own_of (fun _ kk => XS.iloadN X0.here hx rfl (hb hby d15_24) rfl kk) ?_
  show own_Fin _ _ _ _ _ _ _ (T0.setTop (mkF m 25 #[.val (.ref x0), .val (.ref x1), .val (.int (2 : Int32))] [(.int (2 : Int32))]))
  refine own_of (fun _ kk => XS.iconst X0.here hx rfl (hb hby d15_25) kk) ?_
  show own_Fin _ _ _ _ _ _ _ (T0.setTop (mkF m 26 #[.val (.ref x0), .val (.ref x1), .val (.int (2 : Int32))] [(.int (2 : Int32)), (.int (2 : Int32))]))
  refine own_of (fun _ kk => XS.icmpNo X0.here hx rfl (hb hby d15_26) rfl (flt (by decide : ¬ ((2 : Int32) < (2 : Int32)))).1 kk) ?_
  show own_Fin _ _ _ _ _ _ _ (T0.setTop (mkF m 29 #[.val (.ref x0), .val (.ref x1), .val (.int (2 : Int32))] []))
  refine own_of (fun _ kk => XS.aloadN X0.here hx rfl (hb hby d15_29) rfl rfl kk) ?_
  show own_Fin _ _ _ _ _ _ _ (T0.setTop (mkF m 30 #[.val (.ref x0), .val (.ref x1), .val (.int (2 : Int32))] [(.ref x0)]))
  refine own_of (fun _ kk => XS.iconst X0.here hx rfl (hb hby d15_30) kk) ?_
  show own_Fin _ _ _ _ _ _ _ (T0.setTop (mkF m 31 #[.val (.ref x0), .val (.ref x1), .val (.int (2 : Int32))] [(.int (1 : Int32)), (.ref x0)]))
  refine own_iaload X0 hx hZ e0 A (i := 1) (by decide) (by decide) (v := (.int (f 1))) rfl (hb hby d15_31) ?_
  show own_Fin _ _ _ _ _ _ _ (T0.setTop (mkF m 32 #[.val (.ref x0), .val (.ref x1), .val (.int (2 : Int32))] [(.int (f 1))]))
  refine own_of (fun _ kk => XS.aloadN X0.here hx rfl (hb hby d15_32) rfl rfl kk) ?_
  show own_Fin _ _ _ _ _ _ _ (T0.setTop (mkF m 33 #[.val (.ref x0), .val (.ref x1), .val (.int (2 : Int32))] [(.ref x1), (.int (f 1))]))
  refine own_of (fun _ kk => XS.iconst X0.here hx rfl (hb hby d15_33) kk) ?_
  show own_Fin _ _ _ _ _ _ _ (T0.setTop (mkF m 34 #[.val (.ref x0), .val (.ref x1), .val (.int (2 : Int32))] [(.int (1 : Int32)), (.ref x1), (.int (f 1))]))
  refine own_iaload X0 hx hZ e0 G (i := 1) (by decide) (by decide) (v := (.int (g 1))) rfl (hb hby d15_34) ?_
  show own_Fin _ _ _ _ _ _ _ (T0.setTop (mkF m 35 #[.val (.ref x0), .val (.ref x1), .val (.int (2 : Int32))] [(.int (g 1)), (.int (f 1))]))
  refine own_of (fun _ kk => XS.icmpYes X0.here hx rfl (pc0 := 35) (pc' := 40) rfl (hb hby d15_35) rfl (teq (hfg 1 (by decide))).1 (by decide) (by decide) kk) ?_
  show own_Fin _ _ _ _ _ _ _ (T0.setTop (mkF m 40 #[.val (.ref x0), .val (.ref x1), .val (.int (2 : Int32))] []))
  refine own_of (fun _ kk => XS.iloadN X0.here hx rfl (hb hby d15_40) rfl kk) ?_
  show own_Fin _ _ _ _ _ _ _ (T0.setTop (mkF m 41 #[.val (.ref x0), .val (.ref x1), .val (.int (2 : Int32))] [(.int (2 : Int32))]))
  refine own_of (fun _ kk => XS.iconst X0.here hx rfl (hb hby d15_41) kk) ?_
  show own_Fin _ _ _ _ _ _ _ (T0.setTop (mkF m 42 #[.val (.ref x0), .val (.ref x1), .val (.int (2 : Int32))] [(.int (3 : Int32)), (.int (2 : Int32))]))
  refine own_of (fun _ kk => XS.icmpYes X0.here hx rfl (pc0 := 42) (pc' := 56) rfl (hb hby d15_42) rfl (tlt (by decide : ((2 : Int32) < (3 : Int32)))).1 (by decide) (by decide) kk) ?_
  show own_Fin _ _ _ _ _ _ _ (T0.setTop (mkF m 56 #[.val (.ref x0), .val (.ref x1), .val (.int (2 : Int32))] []))
  refine own_of (fun _ kk => XS.iconst X0.here hx rfl (hb hby d15_56) kk) ?_
  show own_Fin _ _ _ _ _ _ _ (T0.setTop (mkF m 57 #[.val (.ref x0), .val (.ref x1), .val (.int (2 : Int32))] [(.int (1 : Int32))]))
  exact own_retN X0 hx hlk e0 (t := .boolean) hret (by simp) (hb hby d15_57) (by decide) (by decide) (z' := (1 : Int32)) (by decide) ⟨rfl, rfl, rfl⟩
set_option maxRecDepth 65536 in
set_option maxHeartbeats 40000000 in
theorem met15_3 (l : Launch) (Z : State) (a0 : Array Value) (hw : ∀ d ∈ tables_1, d.before a0 Z = true) (x0 : Addr) (x1 : Addr) (x2 : Int32) (f : Nat → Int32) (g : Nat → Int32) (h0 : Heap) (n0 : Nat) (Z0 : n0 ≤ h0.size) (hx2 : x2 = 3) (A : own_Arf Z h0 x0 .int 3 (fun j => .int (f j))) (G : own_Arf Z h0 x1 .int 3 (fun j => .int (g j))) (hfg : ∀ j, j < 3 → f j = g j) :
    own_Met l Z (⟨"com/example/shardloom/shardloom/VertexSetAddPinLaw", "same", "([I[II)Z"⟩ : MethodName) method_3_code 3 (some .boolean) { frames := 0, cells := 0, slots := 0, locals := 0 } #[(.ref x0), (.ref x1), (.int x2)] h0 (fun v h L => own_Pure (.int 1) h0 v h L) := by
  refine own_met pn_15 ?_
  intro p e s m below meth c T0 X0 hx hby hml hown hZ e0 hret hlk hnm
  rw [ef_15 m x0 x1 x2]
  have N0 := Fr.nil n0
  subst hx2
  show own_Fin _ _ _ _ _ _ _ (T0.setTop (mkF m 0 #[.val (.ref x0), .val (.ref x1), .val (.int (3 : Int32))] []))
  refine own_of (fun _ kk => XS.aloadN X0.here hx rfl (hb hby d15_0) rfl rfl kk) ?_
  show own_Fin _ _ _ _ _ _ _ (T0.setTop (mkF m 1 #[.val (.ref x0), .val (.ref x1), .val (.int (3 : Int32))] [(.ref x0)]))
  refine own_arraylength X0 hx hZ e0 A (z := (3 : Int32)) (by decide) (hb hby d15_1) ?_
  show own_Fin _ _ _ _ _ _ _ (T0.setTop (mkF m 2 #[.val (.ref x0), .val (.ref x1), .val (.int (3 : Int32))] [(.int (3 : Int32))]))
  refine own_of (fun _ kk => XS.iloadN X0.here hx rfl (hb hby d15_2) rfl kk) ?_
  show own_Fin _ _ _ _ _ _ _ (T0.setTop (mkF m 3 #[.val (.ref x0), .val (.ref x1), .val (.int (3 : Int32))] [(.int (3 : Int32)), (.int (3 : Int32))]))
  refine own_of (fun _ kk => XS.icmpYes X0.here hx rfl (pc0 := 3) (pc' := 8) rfl (hb hby d15_3) rfl (teq (by decide : ((3 : Int32) = (3 : Int32)))).1 (by decide) (by decide) kk) ?_
  show own_Fin _ _ _ _ _ _ _ (T0.setTop (mkF m 8 #[.val (.ref x0), .val (.ref x1), .val (.int (3 : Int32))] []))
  refine own_of (fun _ kk => XS.iloadN X0.here hx rfl (hb hby d15_8) rfl kk) ?_
  show own_Fin _ _ _ _ _ _ _ (T0.setTop (mkF m 9 #[.val (.ref x0), .val (.ref x1), .val (.int (3 : Int32))] [(.int (3 : Int32))]))
  refine own_of (fun _ kk => XS.iconst X0.here hx rfl (hb hby d15_9) kk) ?_
  show own_Fin _ _ _ _ _ _ _ (T0.setTop (mkF m 10 #[.val (.ref x0), .val (.ref x1), .val (.int (3 : Int32))] [(.int (1 : Int32)), (.int (3 : Int32))]))
  refine own_of (fun _ kk => XS.icmpNo X0.here hx rfl (hb hby d15_10) rfl (flt (by decide : ¬ ((3 : Int32) < (1 : Int32)))).1 kk) ?_
  show own_Fin _ _ _ _ _ _ _ (T0.setTop (mkF m 13 #[.val (.ref x0), .val (.ref x1), .val (.int (3 : Int32))] []))
  refine own_of (fun _ kk => XS.aloadN X0.here hx rfl (hb hby d15_13) rfl rfl kk) ?_
  show own_Fin _ _ _ _ _ _ _ (T0.setTop (mkF m 14 #[.val (.ref x0), .val (.ref x1), .val (.int (3 : Int32))] [(.ref x0)]))
  refine own_of (fun _ kk => XS.iconst X0.here hx rfl (hb hby d15_14) kk) ?_
  show own_Fin _ _ _ _ _ _ _ (T0.setTop (mkF m 15 #[.val (.ref x0), .val (.ref x1), .val (.int (3 : Int32))] [(.int (0 : Int32)), (.ref x0)]))
  refine own_iaload X0 hx hZ e0 A (i := 0) (by decide) (by decide) (v := (.int (f 0))) rfl (hb hby d15_15) ?_
  show own_Fin _ _ _ _ _ _ _ (T0.setTop (mkF m 16 #[.val (.ref x0), .val (.ref x1), .val (.int (3 : Int32))] [(.int (f 0))]))
  refine own_of (fun _ kk => XS.aloadN X0.here hx rfl (hb hby d15_16) rfl rfl kk) ?_
  show own_Fin _ _ _ _ _ _ _ (T0.setTop (mkF m 17 #[.val (.ref x0), .val (.ref x1), .val (.int (3 : Int32))] [(.ref x1), (.int (f 0))]))
  refine own_of (fun _ kk => XS.iconst X0.here hx rfl (hb hby d15_17) kk) ?_
  show own_Fin _ _ _ _ _ _ _ (T0.setTop (mkF m 18 #[.val (.ref x0), .val (.ref x1), .val (.int (3 : Int32))] [(.int (0 : Int32)), (.ref x1), (.int (f 0))]))
  refine own_iaload X0 hx hZ e0 G (i := 0) (by decide) (by decide) (v := (.int (g 0))) rfl (hb hby d15_18) ?_
  show own_Fin _ _ _ _ _ _ _ (T0.setTop (mkF m 19 #[.val (.ref x0), .val (.ref x1), .val (.int (3 : Int32))] [(.int (g 0)), (.int (f 0))]))
  refine own_of (fun _ kk => XS.icmpYes X0.here hx rfl (pc0 := 19) (pc' := 24) rfl (hb hby d15_19) rfl (teq (hfg 0 (by decide))).1 (by decide) (by decide) kk) ?_
  show own_Fin _ _ _ _ _ _ _ (T0.setTop (mkF m 24 #[.val (.ref x0), .val (.ref x1), .val (.int (3 : Int32))] []))
  refine own_of (fun _ kk => XS.iloadN X0.here hx rfl (hb hby d15_24) rfl kk) ?_
  show own_Fin _ _ _ _ _ _ _ (T0.setTop (mkF m 25 #[.val (.ref x0), .val (.ref x1), .val (.int (3 : Int32))] [(.int (3 : Int32))]))
  refine own_of (fun _ kk => XS.iconst X0.here hx rfl (hb hby d15_25) kk) ?_
  show own_Fin _ _ _ _ _ _ _ (T0.setTop (mkF m 26 #[.val (.ref x0), .val (.ref x1), .val (.int (3 : Int32))] [(.int (2 : Int32)), (.int (3 : Int32))]))
  refine own_of (fun _ kk => XS.icmpNo X0.here hx rfl (hb hby d15_26) rfl (flt (by decide : ¬ ((3 : Int32) < (2 : Int32)))).1 kk) ?_
  show own_Fin _ _ _ _ _ _ _ (T0.setTop (mkF m 29 #[.val (.ref x0), .val (.ref x1), .val (.int (3 : Int32))] []))
  refine own_of (fun _ kk => XS.aloadN X0.here hx rfl (hb hby d15_29) rfl rfl kk) ?_
  show own_Fin _ _ _ _ _ _ _ (T0.setTop (mkF m 30 #[.val (.ref x0), .val (.ref x1), .val (.int (3 : Int32))] [(.ref x0)]))
  refine own_of (fun _ kk => XS.iconst X0.here hx rfl (hb hby d15_30) kk) ?_
  show own_Fin _ _ _ _ _ _ _ (T0.setTop (mkF m 31 #[.val (.ref x0), .val (.ref x1), .val (.int (3 : Int32))] [(.int (1 : Int32)), (.ref x0)]))
  refine own_iaload X0 hx hZ e0 A (i := 1) (by decide) (by decide) (v := (.int (f 1))) rfl (hb hby d15_31) ?_
  show own_Fin _ _ _ _ _ _ _ (T0.setTop (mkF m 32 #[.val (.ref x0), .val (.ref x1), .val (.int (3 : Int32))] [(.int (f 1))]))
  refine own_of (fun _ kk => XS.aloadN X0.here hx rfl (hb hby d15_32) rfl rfl kk) ?_
  show own_Fin _ _ _ _ _ _ _ (T0.setTop (mkF m 33 #[.val (.ref x0), .val (.ref x1), .val (.int (3 : Int32))] [(.ref x1), (.int (f 1))]))
  refine own_of (fun _ kk => XS.iconst X0.here hx rfl (hb hby d15_33) kk) ?_
  show own_Fin _ _ _ _ _ _ _ (T0.setTop (mkF m 34 #[.val (.ref x0), .val (.ref x1), .val (.int (3 : Int32))] [(.int (1 : Int32)), (.ref x1), (.int (f 1))]))
  refine own_iaload X0 hx hZ e0 G (i := 1) (by decide) (by decide) (v := (.int (g 1))) rfl (hb hby d15_34) ?_
  show own_Fin _ _ _ _ _ _ _ (T0.setTop (mkF m 35 #[.val (.ref x0), .val (.ref x1), .val (.int (3 : Int32))] [(.int (g 1)), (.int (f 1))]))
  refine own_of (fun _ kk => XS.icmpYes X0.here hx rfl (pc0 := 35) (pc' := 40) rfl (hb hby d15_35) rfl (teq (hfg 1 (by decide))).1 (by decide) (by decide) kk) ?_
  show own_Fin _ _ _ _ _ _ _ (T0.setTop (mkF m 40 #[.val (.ref x0), .val (.ref x1), .val (.int (3 : Int32))] []))
  refine own_of (fun _ kk => XS.iloadN X0.here hx rfl (hb hby d15_40) rfl kk) ?_
  show own_Fin _ _ _ _ _ _ _ (T0.setTop (mkF m 41 #[.val (.ref x0), .val (.ref x1), .val (.int (3 : Int32))] [(.int (3 : Int32))]))
  refine own_of (fun _ kk => XS.iconst X0.here hx rfl (hb hby d15_41) kk) ?_
  show own_Fin _ _ _ _ _ _ _ (T0.setTop (mkF m 42 #[.val (.ref x0), .val (.ref x1), .val (.int (3 : Int32))] [(.int (3 : Int32)), (.int (3 : Int32))]))
  refine own_of (fun _ kk => XS.icmpNo X0.here hx rfl (hb hby d15_42) rfl (flt (by decide : ¬ ((3 : Int32) < (3 : Int32)))).1 kk) ?_
  show own_Fin _ _ _ _ _ _ _ (T0.setTop (mkF m 45 #[.val (.ref x0), .val (.ref x1), .val (.int (3 : Int32))] []))
  refine own_of (fun _ kk => XS.aloadN X0.here hx rfl (hb hby d15_45) rfl rfl kk) ?_
  show own_Fin _ _ _ _ _ _ _ (T0.setTop (mkF m 46 #[.val (.ref x0), .val (.ref x1), .val (.int (3 : Int32))] [(.ref x0)]))
  refine own_of (fun _ kk => XS.iconst X0.here hx rfl (hb hby d15_46) kk) ?_
  show own_Fin _ _ _ _ _ _ _ (T0.setTop (mkF m 47 #[.val (.ref x0), .val (.ref x1), .val (.int (3 : Int32))] [(.int (2 : Int32)), (.ref x0)]))
  refine own_iaload X0 hx hZ e0 A (i := 2) (by decide) (by decide) (v := (.int (f 2))) rfl (hb hby d15_47) ?_
  show own_Fin _ _ _ _ _ _ _ (T0.setTop (mkF m 48 #[.val (.ref x0), .val (.ref x1), .val (.int (3 : Int32))] [(.int (f 2))]))
  refine own_of (fun _ kk => XS.aloadN X0.here hx rfl (hb hby d15_48) rfl rfl kk) ?_
  show own_Fin _ _ _ _ _ _ _ (T0.setTop (mkF m 49 #[.val (.ref x0), .val (.ref x1), .val (.int (3 : Int32))] [(.ref x1), (.int (f 2))]))
  refine own_of (fun _ kk => XS.iconst X0.here hx rfl (hb hby d15_49) kk) ?_
  show own_Fin _ _ _ _ _ _ _ (T0.setTop (mkF m 50 #[.val (.ref x0), .val (.ref x1), .val (.int (3 : Int32))] [(.int (2 : Int32)), (.ref x1), (.int (f 2))]))
  refine own_iaload X0 hx hZ e0 G (i := 2) (by decide) (by decide) (v := (.int (g 2))) rfl (hb hby d15_50) ?_
  show own_Fin _ _ _ _ _ _ _ (T0.setTop (mkF m 51 #[.val (.ref x0), .val (.ref x1), .val (.int (3 : Int32))] [(.int (g 2)), (.int (f 2))]))
  refine own_of (fun _ kk => XS.icmpYes X0.here hx rfl (pc0 := 51) (pc' := 56) rfl (hb hby d15_51) rfl (teq (hfg 2 (by decide))).1 (by decide) (by decide) kk) ?_
  show own_Fin _ _ _ _ _ _ _ (T0.setTop (mkF m 56 #[.val (.ref x0), .val (.ref x1), .val (.int (3 : Int32))] []))
  refine own_of (fun _ kk => XS.iconst X0.here hx rfl (hb hby d15_56) kk) ?_
  show own_Fin _ _ _ _ _ _ _ (T0.setTop (mkF m 57 #[.val (.ref x0), .val (.ref x1), .val (.int (3 : Int32))] [(.int (1 : Int32))]))
  exact own_retN X0 hx hlk e0 (t := .boolean) hret (by simp) (hb hby d15_57) (by decide) (by decide) (z' := (1 : Int32)) (by decide) ⟨rfl, rfl, rfl⟩
def own_tri (X Y W : Int32) (f : Nat → Int32) (j : Nat) : Int32 := if j = 0 then X else (if j = 1 then Y else (if j = 2 then W else f j))
theorem own_tris {F : Nat → Value} {X Y W : Int32} {f : Nat → Int32} (h0 : F 0 = .int X) (h1 : F 1 = .int Y) (h2 : F 2 = .int W) (h3 : ∀ j, 3 ≤ j → F j = .int (f j)) (j : Nat) : F j = .int (own_tri X Y W f j) := by
  unfold own_tri
  by_cases j0 : j = 0
  · subst j0; rw [h0, if_pos rfl]
  · by_cases j1 : j = 1
    · subst j1; rw [h1, if_neg j0, if_pos rfl]
    · by_cases j2 : j = 2
      · subst j2; rw [h2, if_neg j0, if_neg j1, if_pos rfl]
      · rw [if_neg j0, if_neg j1, if_neg j2]; exact h3 j (by omega)
def own_Perm (k : Nat) (f g : Nat → Int32) : Prop := (∀ i j, i < j → j < k → ¬ g j < g i) ∧ ∀ v, (∃ i, i < k ∧ g i = v) ↔ ∃ i, i < k ∧ f i = v
theorem own_ex3 (k : Nat) (hk : k ≤ 3) (P : Nat → Prop) : (∃ i, i < k ∧ P i) ↔ (0 < k ∧ P 0) ∨ (1 < k ∧ P 1) ∨ (2 < k ∧ P 2) := by
  constructor
  · rintro ⟨i, h1, h2⟩
    obtain rfl | rfl | rfl : i = 0 ∨ i = 1 ∨ i = 2 := by omega
    · exact Or.inl ⟨h1, h2⟩
    · exact Or.inr (Or.inl ⟨h1, h2⟩)
    · exact Or.inr (Or.inr ⟨h1, h2⟩)
  · rintro (⟨h1, h2⟩ | ⟨h1, h2⟩ | ⟨h1, h2⟩)
    · exact ⟨0, h1, h2⟩
    · exact ⟨1, h1, h2⟩
    · exact ⟨2, h1, h2⟩
theorem own_perm1 (f : Nat → Int32) : own_Perm 1 f (own_tri (f 0) (f 1) (f 2) f) := by
  refine ⟨fun i j h1 h2 => by omega, fun v => ?_⟩
  rw [own_ex3 1 (by decide), own_ex3 1 (by decide)]; rfl
theorem own_perm2 (f : Nat → Int32) (X Y : Int32) (h : (X = f 0 ∧ Y = f 1) ∨ (X = f 1 ∧ Y = f 0)) (o : ¬ Y < X) : own_Perm 2 f (own_tri X Y (f 2) f) := by
  refine ⟨fun i j h1 h2 => ?_, fun v => ?_⟩
  · obtain ⟨rfl, rfl⟩ : i = 0 ∧ j = 1 := by omega
    exact o
  · rw [own_ex3 2 (by decide), own_ex3 2 (by decide)]
    show ((0 < 2 ∧ X = v) ∨ (1 < 2 ∧ Y = v) ∨ (2 < 2 ∧ f 2 = v)) ↔ _
    rcases h with ⟨rfl, rfl⟩ | ⟨rfl, rfl⟩
    · exact Iff.rfl
    · simp; exact or_comm
theorem own_perm3 (f : Nat → Int32) (X Y W : Int32) (h : ∀ v, (X = v ∨ Y = v ∨ W = v) ↔ (f 0 = v ∨ f 1 = v ∨ f 2 = v)) (o1 : ¬ Y < X) (o2 : ¬ W < Y) : own_Perm 3 f (own_tri X Y W f) := by
  refine ⟨fun i j h1 h2 => ?_, fun v => ?_⟩
  · have o3 : ¬ W < X := by rw [Int32.lt_iff_toInt_lt] at *; omega
    obtain ⟨rfl, rfl⟩ | ⟨rfl, rfl⟩ | ⟨rfl, rfl⟩ : (i = 0 ∧ j = 1) ∨ (i = 1 ∧ j = 2) ∨ (i = 0 ∧ j = 2) := by omega
    · exact o1
    · exact o2
    · exact o3
  · rw [own_ex3 3 (by decide), own_ex3 3 (by decide)]
    show ((0 < 3 ∧ X = v) ∨ (1 < 3 ∧ Y = v) ∨ (2 < 3 ∧ W = v)) ↔ _
    simp; exact h v
set_option maxRecDepth 65536 in
set_option maxHeartbeats 40000000 in
theorem met9_1 (l : Launch) (Z : State) (a0 : Array Value) (hw : ∀ d ∈ tables_1, d.before a0 Z = true) (x0 : Addr) (x1 : Int32) (x2 : Int32) (nw : Nat) (f : Nat → Int32) (h0 : Heap) (n0 : Nat) (Z0 : n0 ≤ h0.size) (h1 : x1 = 0) (h2 : x2 = 1) (A : own_Arf Z h0 x0 .int nw (fun j => .int (f j))) (ge : n0 ≤ x0) (hnw : 1 ≤ nw) :
    own_Met l Z (⟨"java/util/DualPivotQuicksort", "insertionSort", "([III)V"⟩ : MethodName) jdk_2529_method_6_code 6 none { frames := 0, cells := 0, slots := 0, locals := 0 } #[(.ref x0), (.int x1), (.int x2)] h0 (fun v h L => v = none ∧ Fr n0 L ∧ n0 ≤ h.size ∧ ∃ g : Nat → Int32, own_Arf Z h x0 .int nw (fun j => .int (g j)) ∧ Keep h0 h [x0] ∧ own_Perm 1 f g) := by
  refine own_met pn_9 ?_
  intro p e s m below meth c T0 X0 hx hby hml hown hZ e0 hret hlk hnm
  rw [ef_9 m x0 x1 x2]
  have N0 := Fr.nil n0
  subst h1 h2
  have K := Keep.refl h0 [x0]
  show own_Fin _ _ _ _ _ _ _ (T0.setTop (mkF m 0 #[.val (.ref x0), .val (.int (0 : Int32)), .val (.int (1 : Int32)), .unset, .unset, .unset] []))
  refine own_of (fun _ kk => XS.iloadN X0.here hx rfl (hb hby d9_0) rfl kk) ?_
  show own_Fin _ _ _ _ _ _ _ (T0.setTop (mkF m 1 #[.val (.ref x0), .val (.int (0 : Int32)), .val (.int (1 : Int32)), .unset, .unset, .unset] [(.int (0 : Int32))]))
  refine own_of (fun _ kk => XS.istore X0.here hx rfl (hb hby d9_1) rfl (l' := #[.val (.ref x0), .val (.int (0 : Int32)), .val (.int (1 : Int32)), .unset, .val (.int (0 : Int32)), .unset]) rfl kk) ?_
  show own_Fin _ _ _ _ _ _ _ (T0.setTop (mkF m 3 #[.val (.ref x0), .val (.int (0 : Int32)), .val (.int (1 : Int32)), .unset, .val (.int (0 : Int32)), .unset] []))
  refine own_of (fun _ kk => XS.iinc X0.here hx rfl (hb hby d9_3) rfl (l' := #[.val (.ref x0), .val (.int (0 : Int32)), .val (.int (1 : Int32)), .unset, .val (.int (1 : Int32)), .unset]) rfl kk) ?_
  show own_Fin _ _ _ _ _ _ _ (T0.setTop (mkF m 6 #[.val (.ref x0), .val (.int (0 : Int32)), .val (.int (1 : Int32)), .unset, .val (.int (1 : Int32)), .unset] []))
  refine own_of (fun _ kk => XS.iload X0.here hx rfl (hb hby d9_6) rfl kk) ?_
  show own_Fin _ _ _ _ _ _ _ (T0.setTop (mkF m 8 #[.val (.ref x0), .val (.int (0 : Int32)), .val (.int (1 : Int32)), .unset, .val (.int (1 : Int32)), .unset] [(.int (1 : Int32))]))
  refine own_of (fun _ kk => XS.iloadN X0.here hx rfl (hb hby d9_8) rfl kk) ?_
  show own_Fin _ _ _ _ _ _ _ (T0.setTop (mkF m 9 #[.val (.ref x0), .val (.int (0 : Int32)), .val (.int (1 : Int32)), .unset, .val (.int (1 : Int32)), .unset] [(.int (1 : Int32)), (.int (1 : Int32))]))
  refine own_of (fun _ kk => XS.icmpYes X0.here hx rfl (pc0 := 9) (pc' := 67) rfl (hb hby d9_9) rfl (flt (by decide : ¬ ((1 : Int32) < (1 : Int32)))).2.1 (by decide) (by decide) kk) ?_
  show own_Fin _ _ _ _ _ _ _ (T0.setTop (mkF m 67 #[.val (.ref x0), .val (.int (0 : Int32)), .val (.int (1 : Int32)), .unset, .val (.int (1 : Int32)), .unset] []))
  exact own_retV X0 hx hlk e0 hret (hb hby d9_67) (by decide) (by decide) ⟨rfl, N0, Z0, own_tri (f 0) (f 1) (f 2) f, (A.congr fun j _ => own_tris (F := (fun j => .int (f j))) (X := (f 0)) (Y := (f 1)) (W := (f 2)) (f := f) rfl rfl rfl (fun j hj => by first | rfl | (dsimp only; (repeat' split) <;> first | (exfalso; omega) | rfl)) j), K, own_perm1 f⟩
set_option maxRecDepth 65536 in
set_option maxHeartbeats 40000000 in
theorem met9_2 (l : Launch) (Z : State) (a0 : Array Value) (hw : ∀ d ∈ tables_1, d.before a0 Z = true) (x0 : Addr) (x1 : Int32) (x2 : Int32) (nw : Nat) (f : Nat → Int32) (h0 : Heap) (n0 : Nat) (Z0 : n0 ≤ h0.size) (h1 : x1 = 0) (h2 : x2 = 2) (A : own_Arf Z h0 x0 .int nw (fun j => .int (f j))) (ge : n0 ≤ x0) (hnw : 2 ≤ nw) :
    own_Met l Z (⟨"java/util/DualPivotQuicksort", "insertionSort", "([III)V"⟩ : MethodName) jdk_2529_method_6_code 6 none { frames := 0, cells := 0, slots := 0, locals := 0 } #[(.ref x0), (.int x1), (.int x2)] h0 (fun v h L => v = none ∧ Fr n0 L ∧ n0 ≤ h.size ∧ ∃ g : Nat → Int32, own_Arf Z h x0 .int nw (fun j => .int (g j)) ∧ Keep h0 h [x0] ∧ own_Perm 2 f g) := by
  refine own_met pn_9 ?_
  intro p e s m below meth c T0 X0 hx hby hml hown hZ e0 hret hlk hnm
  rw [ef_9 m x0 x1 x2]
  have N0 := Fr.nil n0
  subst h1 h2
  have K := Keep.refl h0 [x0]
  show own_Fin _ _ _ _ _ _ _ (T0.setTop (mkF m 0 #[.val (.ref x0), .val (.int (0 : Int32)), .val (.int (2 : Int32)), .unset, .unset, .unset] []))
  refine own_of (fun _ kk => XS.iloadN X0.here hx rfl (hb hby d9_0) rfl kk) ?_
  show own_Fin _ _ _ _ _ _ _ (T0.setTop (mkF m 1 #[.val (.ref x0), .val (.int (0 : Int32)), .val (.int (2 : Int32)), .unset, .unset, .unset] [(.int (0 : Int32))]))
  refine own_of (fun _ kk => XS.istore X0.here hx rfl (hb hby d9_1) rfl (l' := #[.val (.ref x0), .val (.int (0 : Int32)), .val (.int (2 : Int32)), .unset, .val (.int (0 : Int32)), .unset]) rfl kk) ?_
  show own_Fin _ _ _ _ _ _ _ (T0.setTop (mkF m 3 #[.val (.ref x0), .val (.int (0 : Int32)), .val (.int (2 : Int32)), .unset, .val (.int (0 : Int32)), .unset] []))
  refine own_of (fun _ kk => XS.iinc X0.here hx rfl (hb hby d9_3) rfl (l' := #[.val (.ref x0), .val (.int (0 : Int32)), .val (.int (2 : Int32)), .unset, .val (.int (1 : Int32)), .unset]) rfl kk) ?_
  show own_Fin _ _ _ _ _ _ _ (T0.setTop (mkF m 6 #[.val (.ref x0), .val (.int (0 : Int32)), .val (.int (2 : Int32)), .unset, .val (.int (1 : Int32)), .unset] []))
  refine own_of (fun _ kk => XS.iload X0.here hx rfl (hb hby d9_6) rfl kk) ?_
  show own_Fin _ _ _ _ _ _ _ (T0.setTop (mkF m 8 #[.val (.ref x0), .val (.int (0 : Int32)), .val (.int (2 : Int32)), .unset, .val (.int (1 : Int32)), .unset] [(.int (1 : Int32))]))
  refine own_of (fun _ kk => XS.iloadN X0.here hx rfl (hb hby d9_8) rfl kk) ?_
  show own_Fin _ _ _ _ _ _ _ (T0.setTop (mkF m 9 #[.val (.ref x0), .val (.int (0 : Int32)), .val (.int (2 : Int32)), .unset, .val (.int (1 : Int32)), .unset] [(.int (2 : Int32)), (.int (1 : Int32))]))
  refine own_of (fun _ kk => XS.icmpNo X0.here hx rfl (hb hby d9_9) rfl (tlt (by decide : ((1 : Int32) < (2 : Int32)))).2.1 kk) ?_
  show own_Fin _ _ _ _ _ _ _ (T0.setTop (mkF m 12 #[.val (.ref x0), .val (.int (0 : Int32)), .val (.int (2 : Int32)), .unset, .val (.int (1 : Int32)), .unset] []))
  refine own_of (fun _ kk => XS.aloadN X0.here hx rfl (hb hby d9_12) rfl rfl kk) ?_
  show own_Fin _ _ _ _ _ _ _ (T0.setTop (mkF m 13 #[.val (.ref x0), .val (.int (0 : Int32)), .val (.int (2 : Int32)), .unset, .val (.int (1 : Int32)), .unset] [(.ref x0)]))
  refine own_of (fun _ kk => XS.iload X0.here hx rfl (hb hby d9_13) rfl kk) ?_
  show own_Fin _ _ _ _ _ _ _ (T0.setTop (mkF m 15 #[.val (.ref x0), .val (.int (0 : Int32)), .val (.int (2 : Int32)), .unset, .val (.int (1 : Int32)), .unset] [(.int (1 : Int32)), (.ref x0)]))
  refine own_of (fun _ kk => XS.dup X0.here hx rfl (hb hby d9_15) rfl rfl kk) ?_
  show own_Fin _ _ _ _ _ _ _ (T0.setTop (mkF m 16 #[.val (.ref x0), .val (.int (0 : Int32)), .val (.int (2 : Int32)), .unset, .val (.int (1 : Int32)), .unset] [(.int (1 : Int32)), (.int (1 : Int32)), (.ref x0)]))
  refine own_of (fun _ kk => XS.istoreN X0.here hx rfl (hb hby d9_16) rfl (l' := #[.val (.ref x0), .val (.int (0 : Int32)), .val (.int (2 : Int32)), .val (.int (1 : Int32)), .val (.int (1 : Int32)), .unset]) rfl kk) ?_
  show own_Fin _ _ _ _ _ _ _ (T0.setTop (mkF m 17 #[.val (.ref x0), .val (.int (0 : Int32)), .val (.int (2 : Int32)), .val (.int (1 : Int32)), .val (.int (1 : Int32)), .unset] [(.int (1 : Int32)), (.ref x0)]))
  refine own_iaload X0 hx hZ e0 A (i := 1) (by decide) (by omega) (v := (.int (f 1))) rfl (hb hby d9_17) ?_
  show own_Fin _ _ _ _ _ _ _ (T0.setTop (mkF m 18 #[.val (.ref x0), .val (.int (0 : Int32)), .val (.int (2 : Int32)), .val (.int (1 : Int32)), .val (.int (1 : Int32)), .unset] [(.int (f 1))]))
  refine own_of (fun _ kk => XS.istore X0.here hx rfl (hb hby d9_18) rfl (l' := #[.val (.ref x0), .val (.int (0 : Int32)), .val (.int (2 : Int32)), .val (.int (1 : Int32)), .val (.int (1 : Int32)), .val (.int (f 1))]) rfl kk) ?_
  show own_Fin _ _ _ _ _ _ _ (T0.setTop (mkF m 20 #[.val (.ref x0), .val (.int (0 : Int32)), .val (.int (2 : Int32)), .val (.int (1 : Int32)), .val (.int (1 : Int32)), .val (.int (f 1))] []))
  refine own_of (fun _ kk => XS.iload X0.here hx rfl (hb hby d9_20) rfl kk) ?_
  show own_Fin _ _ _ _ _ _ _ (T0.setTop (mkF m 22 #[.val (.ref x0), .val (.int (0 : Int32)), .val (.int (2 : Int32)), .val (.int (1 : Int32)), .val (.int (1 : Int32)), .val (.int (f 1))] [(.int (f 1))]))
  refine own_of (fun _ kk => XS.aloadN X0.here hx rfl (hb hby d9_22) rfl rfl kk) ?_
  show own_Fin _ _ _ _ _ _ _ (T0.setTop (mkF m 23 #[.val (.ref x0), .val (.int (0 : Int32)), .val (.int (2 : Int32)), .val (.int (1 : Int32)), .val (.int (1 : Int32)), .val (.int (f 1))] [(.ref x0), (.int (f 1))]))
  refine own_of (fun _ kk => XS.iloadN X0.here hx rfl (hb hby d9_23) rfl kk) ?_
  show own_Fin _ _ _ _ _ _ _ (T0.setTop (mkF m 24 #[.val (.ref x0), .val (.int (0 : Int32)), .val (.int (2 : Int32)), .val (.int (1 : Int32)), .val (.int (1 : Int32)), .val (.int (f 1))] [(.int (1 : Int32)), (.ref x0), (.int (f 1))]))
  refine own_of (fun _ kk => XS.iconst X0.here hx rfl (hb hby d9_24) kk) ?_
  show own_Fin _ _ _ _ _ _ _ (T0.setTop (mkF m 25 #[.val (.ref x0), .val (.int (0 : Int32)), .val (.int (2 : Int32)), .val (.int (1 : Int32)), .val (.int (1 : Int32)), .val (.int (f 1))] [(.int (1 : Int32)), (.int (1 : Int32)), (.ref x0), (.int (f 1))]))
  refine own_of (fun _ kk => XS.isub X0.here hx rfl (hb hby d9_25) rfl kk) ?_
  show own_Fin _ _ _ _ _ _ _ (T0.setTop (mkF m 26 #[.val (.ref x0), .val (.int (0 : Int32)), .val (.int (2 : Int32)), .val (.int (1 : Int32)), .val (.int (1 : Int32)), .val (.int (f 1))] [(.int (0 : Int32)), (.ref x0), (.int (f 1))]))
  refine own_iaload X0 hx hZ e0 A (i := 0) (by decide) (by omega) (v := (.int (f 0))) rfl (hb hby d9_26) ?_
  show own_Fin _ _ _ _ _ _ _ (T0.setTop (mkF m 27 #[.val (.ref x0), .val (.int (0 : Int32)), .val (.int (2 : Int32)), .val (.int (1 : Int32)), .val (.int (1 : Int32)), .val (.int (f 1))] [(.int (f 0)), (.int (f 1))]))
  by_cases c27 : (f 1) < (f 0)
  · refine own_of (fun _ kk => XS.icmpNo X0.here hx rfl (hb hby d9_27) rfl (tlt c27).2.1 kk) ?_
    show own_Fin _ _ _ _ _ _ _ (T0.setTop (mkF m 30 #[.val (.ref x0), .val (.int (0 : Int32)), .val (.int (2 : Int32)), .val (.int (1 : Int32)), .val (.int (1 : Int32)), .val (.int (f 1))] []))
    refine own_of (fun _ kk => XS.iinc X0.here hx rfl (hb hby d9_30) rfl (l' := #[.val (.ref x0), .val (.int (0 : Int32)), .val (.int (2 : Int32)), .val (.int (0 : Int32)), .val (.int (1 : Int32)), .val (.int (f 1))]) rfl kk) ?_
    show own_Fin _ _ _ _ _ _ _ (T0.setTop (mkF m 33 #[.val (.ref x0), .val (.int (0 : Int32)), .val (.int (2 : Int32)), .val (.int (0 : Int32)), .val (.int (1 : Int32)), .val (.int (f 1))] []))
    refine own_of (fun _ kk => XS.iloadN X0.here hx rfl (hb hby d9_33) rfl kk) ?_
    show own_Fin _ _ _ _ _ _ _ (T0.setTop (mkF m 34 #[.val (.ref x0), .val (.int (0 : Int32)), .val (.int (2 : Int32)), .val (.int (0 : Int32)), .val (.int (1 : Int32)), .val (.int (f 1))] [(.int (0 : Int32))]))
    refine own_of (fun _ kk => XS.iloadN X0.here hx rfl (hb hby d9_34) rfl kk) ?_
    show own_Fin _ _ _ _ _ _ _ (T0.setTop (mkF m 35 #[.val (.ref x0), .val (.int (0 : Int32)), .val (.int (2 : Int32)), .val (.int (0 : Int32)), .val (.int (1 : Int32)), .val (.int (f 1))] [(.int (0 : Int32)), (.int (0 : Int32))]))
    refine own_of (fun _ kk => XS.icmpNo X0.here hx rfl (hb hby d9_35) rfl (flt (by decide : ¬ ((0 : Int32) < (0 : Int32)))).1 kk) ?_
    show own_Fin _ _ _ _ _ _ _ (T0.setTop (mkF m 38 #[.val (.ref x0), .val (.int (0 : Int32)), .val (.int (2 : Int32)), .val (.int (0 : Int32)), .val (.int (1 : Int32)), .val (.int (f 1))] []))
    refine own_of (fun _ kk => XS.iload X0.here hx rfl (hb hby d9_38) rfl kk) ?_
    show own_Fin _ _ _ _ _ _ _ (T0.setTop (mkF m 40 #[.val (.ref x0), .val (.int (0 : Int32)), .val (.int (2 : Int32)), .val (.int (0 : Int32)), .val (.int (1 : Int32)), .val (.int (f 1))] [(.int (f 1))]))
    refine own_of (fun _ kk => XS.aloadN X0.here hx rfl (hb hby d9_40) rfl rfl kk) ?_
    show own_Fin _ _ _ _ _ _ _ (T0.setTop (mkF m 41 #[.val (.ref x0), .val (.int (0 : Int32)), .val (.int (2 : Int32)), .val (.int (0 : Int32)), .val (.int (1 : Int32)), .val (.int (f 1))] [(.ref x0), (.int (f 1))]))
    refine own_of (fun _ kk => XS.iloadN X0.here hx rfl (hb hby d9_41) rfl kk) ?_
    show own_Fin _ _ _ _ _ _ _ (T0.setTop (mkF m 42 #[.val (.ref x0), .val (.int (0 : Int32)), .val (.int (2 : Int32)), .val (.int (0 : Int32)), .val (.int (1 : Int32)), .val (.int (f 1))] [(.int (0 : Int32)), (.ref x0), (.int (f 1))]))
    refine own_iaload X0 hx hZ e0 A (i := 0) (by decide) (by omega) (v := (.int (f 0))) rfl (hb hby d9_42) ?_
    show own_Fin _ _ _ _ _ _ _ (T0.setTop (mkF m 43 #[.val (.ref x0), .val (.int (0 : Int32)), .val (.int (2 : Int32)), .val (.int (0 : Int32)), .val (.int (1 : Int32)), .val (.int (f 1))] [(.int (f 0)), (.int (f 1))]))
    by_cases c43 : (f 1) < (f 0)
    · refine own_of (fun _ kk => XS.icmpNo X0.here hx rfl (hb hby d9_43) rfl (tlt c43).2.1 kk) ?_
      show own_Fin _ _ _ _ _ _ _ (T0.setTop (mkF m 46 #[.val (.ref x0), .val (.int (0 : Int32)), .val (.int (2 : Int32)), .val (.int (0 : Int32)), .val (.int (1 : Int32)), .val (.int (f 1))] []))
      refine own_of (fun _ kk => XS.aloadN X0.here hx rfl (hb hby d9_46) rfl rfl kk) ?_
      show own_Fin _ _ _ _ _ _ _ (T0.setTop (mkF m 47 #[.val (.ref x0), .val (.int (0 : Int32)), .val (.int (2 : Int32)), .val (.int (0 : Int32)), .val (.int (1 : Int32)), .val (.int (f 1))] [(.ref x0)]))
      refine own_of (fun _ kk => XS.iloadN X0.here hx rfl (hb hby d9_47) rfl kk) ?_
      show own_Fin _ _ _ _ _ _ _ (T0.setTop (mkF m 48 #[.val (.ref x0), .val (.int (0 : Int32)), .val (.int (2 : Int32)), .val (.int (0 : Int32)), .val (.int (1 : Int32)), .val (.int (f 1))] [(.int (0 : Int32)), (.ref x0)]))
      refine own_of (fun _ kk => XS.iconst X0.here hx rfl (hb hby d9_48) kk) ?_
      show own_Fin _ _ _ _ _ _ _ (T0.setTop (mkF m 49 #[.val (.ref x0), .val (.int (0 : Int32)), .val (.int (2 : Int32)), .val (.int (0 : Int32)), .val (.int (1 : Int32)), .val (.int (f 1))] [(.int (1 : Int32)), (.int (0 : Int32)), (.ref x0)]))
      refine own_of (fun _ kk => XS.iadd X0.here hx rfl (hb hby d9_49) rfl kk) ?_
      show own_Fin _ _ _ _ _ _ _ (T0.setTop (mkF m 50 #[.val (.ref x0), .val (.int (0 : Int32)), .val (.int (2 : Int32)), .val (.int (0 : Int32)), .val (.int (1 : Int32)), .val (.int (f 1))] [(.int (1 : Int32)), (.ref x0)]))
      refine own_of (fun _ kk => XS.aloadN X0.here hx rfl (hb hby d9_50) rfl rfl kk) ?_
      show own_Fin _ _ _ _ _ _ _ (T0.setTop (mkF m 51 #[.val (.ref x0), .val (.int (0 : Int32)), .val (.int (2 : Int32)), .val (.int (0 : Int32)), .val (.int (1 : Int32)), .val (.int (f 1))] [(.ref x0), (.int (1 : Int32)), (.ref x0)]))
      refine own_of (fun _ kk => XS.iloadN X0.here hx rfl (hb hby d9_51) rfl kk) ?_
      show own_Fin _ _ _ _ _ _ _ (T0.setTop (mkF m 52 #[.val (.ref x0), .val (.int (0 : Int32)), .val (.int (2 : Int32)), .val (.int (0 : Int32)), .val (.int (1 : Int32)), .val (.int (f 1))] [(.int (0 : Int32)), (.ref x0), (.int (1 : Int32)), (.ref x0)]))
      refine own_iaload X0 hx hZ e0 A (i := 0) (by decide) (by omega) (v := (.int (f 0))) rfl (hb hby d9_52) ?_
      show own_Fin _ _ _ _ _ _ _ (T0.setTop (mkF m 53 #[.val (.ref x0), .val (.int (0 : Int32)), .val (.int (2 : Int32)), .val (.int (0 : Int32)), .val (.int (1 : Int32)), .val (.int (f 1))] [(.int (f 0)), (.int (1 : Int32)), (.ref x0)]))
      refine own_iastore X0 hx hZ e0 A N0 ge (i := 1) (by decide) (by omega) (hb hby d9_53) ?_
      intro T1 h1 l1 X1 N1 e1 W1 A1
      replace A1 : own_Arf Z h1 x0 .int nw (fun j => if j = 1 then (.int (f 0)) else (fun j => .int (f j)) j) := A1
      have KW1 := K.wr W1 (Or.inl (List.mem_of_getElem? (i := 0) rfl))
      have ZW1 : n0 ≤ h1.size := by rw [Wr.size W1]; exact Z0
      show own_Fin _ _ _ _ _ _ _ (T1.setTop (mkF m 54 #[.val (.ref x0), .val (.int (0 : Int32)), .val (.int (2 : Int32)), .val (.int (0 : Int32)), .val (.int (1 : Int32)), .val (.int (f 1))] []))
      refine own_of (fun _ kk => XS.goto X1.here hx rfl (pc0 := 54) (pc' := 30) rfl (hb hby d9_54) (by decide) (by decide) kk) ?_
      show own_Fin _ _ _ _ _ _ _ (T1.setTop (mkF m 30 #[.val (.ref x0), .val (.int (0 : Int32)), .val (.int (2 : Int32)), .val (.int (0 : Int32)), .val (.int (1 : Int32)), .val (.int (f 1))] []))
      refine own_of (fun _ kk => XS.iinc X1.here hx rfl (hb hby d9_30) rfl (l' := #[.val (.ref x0), .val (.int (0 : Int32)), .val (.int (2 : Int32)), .val (.int (-1 : Int32)), .val (.int (1 : Int32)), .val (.int (f 1))]) rfl kk) ?_
      show own_Fin _ _ _ _ _ _ _ (T1.setTop (mkF m 33 #[.val (.ref x0), .val (.int (0 : Int32)), .val (.int (2 : Int32)), .val (.int (-1 : Int32)), .val (.int (1 : Int32)), .val (.int (f 1))] []))
      refine own_of (fun _ kk => XS.iloadN X1.here hx rfl (hb hby d9_33) rfl kk) ?_
      show own_Fin _ _ _ _ _ _ _ (T1.setTop (mkF m 34 #[.val (.ref x0), .val (.int (0 : Int32)), .val (.int (2 : Int32)), .val (.int (-1 : Int32)), .val (.int (1 : Int32)), .val (.int (f 1))] [(.int (-1 : Int32))]))
      refine own_of (fun _ kk => XS.iloadN X1.here hx rfl (hb hby d9_34) rfl kk) ?_
      show own_Fin _ _ _ _ _ _ _ (T1.setTop (mkF m 35 #[.val (.ref x0), .val (.int (0 : Int32)), .val (.int (2 : Int32)), .val (.int (-1 : Int32)), .val (.int (1 : Int32)), .val (.int (f 1))] [(.int (0 : Int32)), (.int (-1 : Int32))]))
      refine own_of (fun _ kk => XS.icmpYes X1.here hx rfl (pc0 := 35) (pc' := 57) rfl (hb hby d9_35) rfl (tlt (by decide : ((-1 : Int32) < (0 : Int32)))).1 (by decide) (by decide) kk) ?_
      show own_Fin _ _ _ _ _ _ _ (T1.setTop (mkF m 57 #[.val (.ref x0), .val (.int (0 : Int32)), .val (.int (2 : Int32)), .val (.int (-1 : Int32)), .val (.int (1 : Int32)), .val (.int (f 1))] []))
      refine own_of (fun _ kk => XS.aloadN X1.here hx rfl (hb hby d9_57) rfl rfl kk) ?_
      show own_Fin _ _ _ _ _ _ _ (T1.setTop (mkF m 58 #[.val (.ref x0), .val (.int (0 : Int32)), .val (.int (2 : Int32)), .val (.int (-1 : Int32)), .val (.int (1 : Int32)), .val (.int (f 1))] [(.ref x0)]))
      refine own_of (fun _ kk => XS.iloadN X1.here hx rfl (hb hby d9_58) rfl kk) ?_
      show own_Fin _ _ _ _ _ _ _ (T1.setTop (mkF m 59 #[.val (.ref x0), .val (.int (0 : Int32)), .val (.int (2 : Int32)), .val (.int (-1 : Int32)), .val (.int (1 : Int32)), .val (.int (f 1))] [(.int (-1 : Int32)), (.ref x0)]))
      refine own_of (fun _ kk => XS.iconst X1.here hx rfl (hb hby d9_59) kk) ?_
      show own_Fin _ _ _ _ _ _ _ (T1.setTop (mkF m 60 #[.val (.ref x0), .val (.int (0 : Int32)), .val (.int (2 : Int32)), .val (.int (-1 : Int32)), .val (.int (1 : Int32)), .val (.int (f 1))] [(.int (1 : Int32)), (.int (-1 : Int32)), (.ref x0)]))
      refine own_of (fun _ kk => XS.iadd X1.here hx rfl (hb hby d9_60) rfl kk) ?_
      show own_Fin _ _ _ _ _ _ _ (T1.setTop (mkF m 61 #[.val (.ref x0), .val (.int (0 : Int32)), .val (.int (2 : Int32)), .val (.int (-1 : Int32)), .val (.int (1 : Int32)), .val (.int (f 1))] [(.int (0 : Int32)), (.ref x0)]))
      refine own_of (fun _ kk => XS.iload X1.here hx rfl (hb hby d9_61) rfl kk) ?_
      show own_Fin _ _ _ _ _ _ _ (T1.setTop (mkF m 63 #[.val (.ref x0), .val (.int (0 : Int32)), .val (.int (2 : Int32)), .val (.int (-1 : Int32)), .val (.int (1 : Int32)), .val (.int (f 1))] [(.int (f 1)), (.int (0 : Int32)), (.ref x0)]))
      refine own_iastore X1 hx hZ e1 A1 N1 ge (i := 0) (by decide) (by omega) (hb hby d9_63) ?_
      intro T2 h2 l2 X2 N2 e2 W2 A2
      replace A2 : own_Arf Z h2 x0 .int nw (fun j => if j = 0 then (.int (f 1)) else (fun j => if j = 1 then (.int (f 0)) else (fun j => .int (f j)) j) j) := A2
      have KW2 := KW1.wr W2 (Or.inl (List.mem_of_getElem? (i := 0) rfl))
      have ZW2 : n0 ≤ h2.size := by rw [Wr.size W2]; exact ZW1
      show own_Fin _ _ _ _ _ _ _ (T2.setTop (mkF m 64 #[.val (.ref x0), .val (.int (0 : Int32)), .val (.int (2 : Int32)), .val (.int (-1 : Int32)), .val (.int (1 : Int32)), .val (.int (f 1))] []))
      refine own_of (fun _ kk => XS.goto X2.here hx rfl (pc0 := 64) (pc' := 3) rfl (hb hby d9_64) (by decide) (by decide) kk) ?_
      show own_Fin _ _ _ _ _ _ _ (T2.setTop (mkF m 3 #[.val (.ref x0), .val (.int (0 : Int32)), .val (.int (2 : Int32)), .val (.int (-1 : Int32)), .val (.int (1 : Int32)), .val (.int (f 1))] []))
      refine own_of (fun _ kk => XS.iinc X2.here hx rfl (hb hby d9_3) rfl (l' := #[.val (.ref x0), .val (.int (0 : Int32)), .val (.int (2 : Int32)), .val (.int (-1 : Int32)), .val (.int (2 : Int32)), .val (.int (f 1))]) rfl kk) ?_
      show own_Fin _ _ _ _ _ _ _ (T2.setTop (mkF m 6 #[.val (.ref x0), .val (.int (0 : Int32)), .val (.int (2 : Int32)), .val (.int (-1 : Int32)), .val (.int (2 : Int32)), .val (.int (f 1))] []))
      refine own_of (fun _ kk => XS.iload X2.here hx rfl (hb hby d9_6) rfl kk) ?_
      show own_Fin _ _ _ _ _ _ _ (T2.setTop (mkF m 8 #[.val (.ref x0), .val (.int (0 : Int32)), .val (.int (2 : Int32)), .val (.int (-1 : Int32)), .val (.int (2 : Int32)), .val (.int (f 1))] [(.int (2 : Int32))]))
      refine own_of (fun _ kk => XS.iloadN X2.here hx rfl (hb hby d9_8) rfl kk) ?_
      show own_Fin _ _ _ _ _ _ _ (T2.setTop (mkF m 9 #[.val (.ref x0), .val (.int (0 : Int32)), .val (.int (2 : Int32)), .val (.int (-1 : Int32)), .val (.int (2 : Int32)), .val (.int (f 1))] [(.int (2 : Int32)), (.int (2 : Int32))]))
      refine own_of (fun _ kk => XS.icmpYes X2.here hx rfl (pc0 := 9) (pc' := 67) rfl (hb hby d9_9) rfl (flt (by decide : ¬ ((2 : Int32) < (2 : Int32)))).2.1 (by decide) (by decide) kk) ?_
      show own_Fin _ _ _ _ _ _ _ (T2.setTop (mkF m 67 #[.val (.ref x0), .val (.int (0 : Int32)), .val (.int (2 : Int32)), .val (.int (-1 : Int32)), .val (.int (2 : Int32)), .val (.int (f 1))] []))
      exact own_retV X2 hx hlk e2 hret (hb hby d9_67) (by decide) (by decide) ⟨rfl, N2, ZW2, own_tri (f 1) (f 0) (f 2) f, (A2.congr fun j _ => own_tris (F := (fun j => if j = 0 then (.int (f 1)) else (fun j => if j = 1 then (.int (f 0)) else (fun j => .int (f j)) j) j)) (X := (f 1)) (Y := (f 0)) (W := (f 2)) (f := f) rfl rfl rfl (fun j hj => by first | rfl | (dsimp only; (repeat' split) <;> first | (exfalso; omega) | rfl)) j), KW2, own_perm2 f _ _ (Or.inr ⟨rfl, rfl⟩) (by simp only [Int32.lt_iff_toInt_lt] at *; omega)⟩
    · refine own_of (fun _ kk => XS.icmpYes X0.here hx rfl (pc0 := 43) (pc' := 57) rfl (hb hby d9_43) rfl (flt c43).2.1 (by decide) (by decide) kk) ?_
      show own_Fin _ _ _ _ _ _ _ (T0.setTop (mkF m 57 #[.val (.ref x0), .val (.int (0 : Int32)), .val (.int (2 : Int32)), .val (.int (0 : Int32)), .val (.int (1 : Int32)), .val (.int (f 1))] []))
      refine own_of (fun _ kk => XS.aloadN X0.here hx rfl (hb hby d9_57) rfl rfl kk) ?_
      show own_Fin _ _ _ _ _ _ _ (T0.setTop (mkF m 58 #[.val (.ref x0), .val (.int (0 : Int32)), .val (.int (2 : Int32)), .val (.int (0 : Int32)), .val (.int (1 : Int32)), .val (.int (f 1))] [(.ref x0)]))
      refine own_of (fun _ kk => XS.iloadN X0.here hx rfl (hb hby d9_58) rfl kk) ?_
      show own_Fin _ _ _ _ _ _ _ (T0.setTop (mkF m 59 #[.val (.ref x0), .val (.int (0 : Int32)), .val (.int (2 : Int32)), .val (.int (0 : Int32)), .val (.int (1 : Int32)), .val (.int (f 1))] [(.int (0 : Int32)), (.ref x0)]))
      refine own_of (fun _ kk => XS.iconst X0.here hx rfl (hb hby d9_59) kk) ?_
      show own_Fin _ _ _ _ _ _ _ (T0.setTop (mkF m 60 #[.val (.ref x0), .val (.int (0 : Int32)), .val (.int (2 : Int32)), .val (.int (0 : Int32)), .val (.int (1 : Int32)), .val (.int (f 1))] [(.int (1 : Int32)), (.int (0 : Int32)), (.ref x0)]))
      refine own_of (fun _ kk => XS.iadd X0.here hx rfl (hb hby d9_60) rfl kk) ?_
      show own_Fin _ _ _ _ _ _ _ (T0.setTop (mkF m 61 #[.val (.ref x0), .val (.int (0 : Int32)), .val (.int (2 : Int32)), .val (.int (0 : Int32)), .val (.int (1 : Int32)), .val (.int (f 1))] [(.int (1 : Int32)), (.ref x0)]))
      refine own_of (fun _ kk => XS.iload X0.here hx rfl (hb hby d9_61) rfl kk) ?_
      show own_Fin _ _ _ _ _ _ _ (T0.setTop (mkF m 63 #[.val (.ref x0), .val (.int (0 : Int32)), .val (.int (2 : Int32)), .val (.int (0 : Int32)), .val (.int (1 : Int32)), .val (.int (f 1))] [(.int (f 1)), (.int (1 : Int32)), (.ref x0)]))
      refine own_iastore X0 hx hZ e0 A N0 ge (i := 1) (by decide) (by omega) (hb hby d9_63) ?_
      intro T3 h3 l3 X3 N3 e3 W3 A3
      replace A3 : own_Arf Z h3 x0 .int nw (fun j => if j = 1 then (.int (f 1)) else (fun j => .int (f j)) j) := A3
      have KW3 := K.wr W3 (Or.inl (List.mem_of_getElem? (i := 0) rfl))
      have ZW3 : n0 ≤ h3.size := by rw [Wr.size W3]; exact Z0
      show own_Fin _ _ _ _ _ _ _ (T3.setTop (mkF m 64 #[.val (.ref x0), .val (.int (0 : Int32)), .val (.int (2 : Int32)), .val (.int (0 : Int32)), .val (.int (1 : Int32)), .val (.int (f 1))] []))
      refine own_of (fun _ kk => XS.goto X3.here hx rfl (pc0 := 64) (pc' := 3) rfl (hb hby d9_64) (by decide) (by decide) kk) ?_
      show own_Fin _ _ _ _ _ _ _ (T3.setTop (mkF m 3 #[.val (.ref x0), .val (.int (0 : Int32)), .val (.int (2 : Int32)), .val (.int (0 : Int32)), .val (.int (1 : Int32)), .val (.int (f 1))] []))
      refine own_of (fun _ kk => XS.iinc X3.here hx rfl (hb hby d9_3) rfl (l' := #[.val (.ref x0), .val (.int (0 : Int32)), .val (.int (2 : Int32)), .val (.int (0 : Int32)), .val (.int (2 : Int32)), .val (.int (f 1))]) rfl kk) ?_
      show own_Fin _ _ _ _ _ _ _ (T3.setTop (mkF m 6 #[.val (.ref x0), .val (.int (0 : Int32)), .val (.int (2 : Int32)), .val (.int (0 : Int32)), .val (.int (2 : Int32)), .val (.int (f 1))] []))
      refine own_of (fun _ kk => XS.iload X3.here hx rfl (hb hby d9_6) rfl kk) ?_
      show own_Fin _ _ _ _ _ _ _ (T3.setTop (mkF m 8 #[.val (.ref x0), .val (.int (0 : Int32)), .val (.int (2 : Int32)), .val (.int (0 : Int32)), .val (.int (2 : Int32)), .val (.int (f 1))] [(.int (2 : Int32))]))
      refine own_of (fun _ kk => XS.iloadN X3.here hx rfl (hb hby d9_8) rfl kk) ?_
      show own_Fin _ _ _ _ _ _ _ (T3.setTop (mkF m 9 #[.val (.ref x0), .val (.int (0 : Int32)), .val (.int (2 : Int32)), .val (.int (0 : Int32)), .val (.int (2 : Int32)), .val (.int (f 1))] [(.int (2 : Int32)), (.int (2 : Int32))]))
      refine own_of (fun _ kk => XS.icmpYes X3.here hx rfl (pc0 := 9) (pc' := 67) rfl (hb hby d9_9) rfl (flt (by decide : ¬ ((2 : Int32) < (2 : Int32)))).2.1 (by decide) (by decide) kk) ?_
      show own_Fin _ _ _ _ _ _ _ (T3.setTop (mkF m 67 #[.val (.ref x0), .val (.int (0 : Int32)), .val (.int (2 : Int32)), .val (.int (0 : Int32)), .val (.int (2 : Int32)), .val (.int (f 1))] []))
      exact own_retV X3 hx hlk e3 hret (hb hby d9_67) (by decide) (by decide) ⟨rfl, N3, ZW3, own_tri (f 0) (f 1) (f 2) f, (A3.congr fun j _ => own_tris (F := (fun j => if j = 1 then (.int (f 1)) else (fun j => .int (f j)) j)) (X := (f 0)) (Y := (f 1)) (W := (f 2)) (f := f) rfl rfl rfl (fun j hj => by first | rfl | (dsimp only; (repeat' split) <;> first | (exfalso; omega) | rfl)) j), KW3, own_perm2 f _ _ (Or.inl ⟨rfl, rfl⟩) (by simp only [Int32.lt_iff_toInt_lt] at *; omega)⟩
  · refine own_of (fun _ kk => XS.icmpYes X0.here hx rfl (pc0 := 27) (pc' := 64) rfl (hb hby d9_27) rfl (flt c27).2.1 (by decide) (by decide) kk) ?_
    show own_Fin _ _ _ _ _ _ _ (T0.setTop (mkF m 64 #[.val (.ref x0), .val (.int (0 : Int32)), .val (.int (2 : Int32)), .val (.int (1 : Int32)), .val (.int (1 : Int32)), .val (.int (f 1))] []))
    refine own_of (fun _ kk => XS.goto X0.here hx rfl (pc0 := 64) (pc' := 3) rfl (hb hby d9_64) (by decide) (by decide) kk) ?_
    show own_Fin _ _ _ _ _ _ _ (T0.setTop (mkF m 3 #[.val (.ref x0), .val (.int (0 : Int32)), .val (.int (2 : Int32)), .val (.int (1 : Int32)), .val (.int (1 : Int32)), .val (.int (f 1))] []))
    refine own_of (fun _ kk => XS.iinc X0.here hx rfl (hb hby d9_3) rfl (l' := #[.val (.ref x0), .val (.int (0 : Int32)), .val (.int (2 : Int32)), .val (.int (1 : Int32)), .val (.int (2 : Int32)), .val (.int (f 1))]) rfl kk) ?_
    show own_Fin _ _ _ _ _ _ _ (T0.setTop (mkF m 6 #[.val (.ref x0), .val (.int (0 : Int32)), .val (.int (2 : Int32)), .val (.int (1 : Int32)), .val (.int (2 : Int32)), .val (.int (f 1))] []))
    refine own_of (fun _ kk => XS.iload X0.here hx rfl (hb hby d9_6) rfl kk) ?_
    show own_Fin _ _ _ _ _ _ _ (T0.setTop (mkF m 8 #[.val (.ref x0), .val (.int (0 : Int32)), .val (.int (2 : Int32)), .val (.int (1 : Int32)), .val (.int (2 : Int32)), .val (.int (f 1))] [(.int (2 : Int32))]))
    refine own_of (fun _ kk => XS.iloadN X0.here hx rfl (hb hby d9_8) rfl kk) ?_
    show own_Fin _ _ _ _ _ _ _ (T0.setTop (mkF m 9 #[.val (.ref x0), .val (.int (0 : Int32)), .val (.int (2 : Int32)), .val (.int (1 : Int32)), .val (.int (2 : Int32)), .val (.int (f 1))] [(.int (2 : Int32)), (.int (2 : Int32))]))
    refine own_of (fun _ kk => XS.icmpYes X0.here hx rfl (pc0 := 9) (pc' := 67) rfl (hb hby d9_9) rfl (flt (by decide : ¬ ((2 : Int32) < (2 : Int32)))).2.1 (by decide) (by decide) kk) ?_
    show own_Fin _ _ _ _ _ _ _ (T0.setTop (mkF m 67 #[.val (.ref x0), .val (.int (0 : Int32)), .val (.int (2 : Int32)), .val (.int (1 : Int32)), .val (.int (2 : Int32)), .val (.int (f 1))] []))
    exact own_retV X0 hx hlk e0 hret (hb hby d9_67) (by decide) (by decide) ⟨rfl, N0, Z0, own_tri (f 0) (f 1) (f 2) f, (A.congr fun j _ => own_tris (F := (fun j => .int (f j))) (X := (f 0)) (Y := (f 1)) (W := (f 2)) (f := f) rfl rfl rfl (fun j hj => by first | rfl | (dsimp only; (repeat' split) <;> first | (exfalso; omega) | rfl)) j), K, own_perm2 f _ _ (Or.inl ⟨rfl, rfl⟩) (by simp only [Int32.lt_iff_toInt_lt] at *; omega)⟩
set_option maxRecDepth 65536 in
set_option maxHeartbeats 40000000 in
theorem met9_3 (l : Launch) (Z : State) (a0 : Array Value) (hw : ∀ d ∈ tables_1, d.before a0 Z = true) (x0 : Addr) (x1 : Int32) (x2 : Int32) (nw : Nat) (f : Nat → Int32) (h0 : Heap) (n0 : Nat) (Z0 : n0 ≤ h0.size) (h1 : x1 = 0) (h2 : x2 = 3) (A : own_Arf Z h0 x0 .int nw (fun j => .int (f j))) (ge : n0 ≤ x0) (hnw : 3 ≤ nw) :
    own_Met l Z (⟨"java/util/DualPivotQuicksort", "insertionSort", "([III)V"⟩ : MethodName) jdk_2529_method_6_code 6 none { frames := 0, cells := 0, slots := 0, locals := 0 } #[(.ref x0), (.int x1), (.int x2)] h0 (fun v h L => v = none ∧ Fr n0 L ∧ n0 ≤ h.size ∧ ∃ g : Nat → Int32, own_Arf Z h x0 .int nw (fun j => .int (g j)) ∧ Keep h0 h [x0] ∧ own_Perm 3 f g) := by
  refine own_met pn_9 ?_
  intro p e s m below meth c T0 X0 hx hby hml hown hZ e0 hret hlk hnm
  rw [ef_9 m x0 x1 x2]
  have N0 := Fr.nil n0
  subst h1 h2
  have K := Keep.refl h0 [x0]
  show own_Fin _ _ _ _ _ _ _ (T0.setTop (mkF m 0 #[.val (.ref x0), .val (.int (0 : Int32)), .val (.int (3 : Int32)), .unset, .unset, .unset] []))
  refine own_of (fun _ kk => XS.iloadN X0.here hx rfl (hb hby d9_0) rfl kk) ?_
  show own_Fin _ _ _ _ _ _ _ (T0.setTop (mkF m 1 #[.val (.ref x0), .val (.int (0 : Int32)), .val (.int (3 : Int32)), .unset, .unset, .unset] [(.int (0 : Int32))]))
  refine own_of (fun _ kk => XS.istore X0.here hx rfl (hb hby d9_1) rfl (l' := #[.val (.ref x0), .val (.int (0 : Int32)), .val (.int (3 : Int32)), .unset, .val (.int (0 : Int32)), .unset]) rfl kk) ?_
  show own_Fin _ _ _ _ _ _ _ (T0.setTop (mkF m 3 #[.val (.ref x0), .val (.int (0 : Int32)), .val (.int (3 : Int32)), .unset, .val (.int (0 : Int32)), .unset] []))
  refine own_of (fun _ kk => XS.iinc X0.here hx rfl (hb hby d9_3) rfl (l' := #[.val (.ref x0), .val (.int (0 : Int32)), .val (.int (3 : Int32)), .unset, .val (.int (1 : Int32)), .unset]) rfl kk) ?_
  show own_Fin _ _ _ _ _ _ _ (T0.setTop (mkF m 6 #[.val (.ref x0), .val (.int (0 : Int32)), .val (.int (3 : Int32)), .unset, .val (.int (1 : Int32)), .unset] []))
  refine own_of (fun _ kk => XS.iload X0.here hx rfl (hb hby d9_6) rfl kk) ?_
  show own_Fin _ _ _ _ _ _ _ (T0.setTop (mkF m 8 #[.val (.ref x0), .val (.int (0 : Int32)), .val (.int (3 : Int32)), .unset, .val (.int (1 : Int32)), .unset] [(.int (1 : Int32))]))
  refine own_of (fun _ kk => XS.iloadN X0.here hx rfl (hb hby d9_8) rfl kk) ?_
  show own_Fin _ _ _ _ _ _ _ (T0.setTop (mkF m 9 #[.val (.ref x0), .val (.int (0 : Int32)), .val (.int (3 : Int32)), .unset, .val (.int (1 : Int32)), .unset] [(.int (3 : Int32)), (.int (1 : Int32))]))
  refine own_of (fun _ kk => XS.icmpNo X0.here hx rfl (hb hby d9_9) rfl (tlt (by decide : ((1 : Int32) < (3 : Int32)))).2.1 kk) ?_
  show own_Fin _ _ _ _ _ _ _ (T0.setTop (mkF m 12 #[.val (.ref x0), .val (.int (0 : Int32)), .val (.int (3 : Int32)), .unset, .val (.int (1 : Int32)), .unset] []))
  refine own_of (fun _ kk => XS.aloadN X0.here hx rfl (hb hby d9_12) rfl rfl kk) ?_
  show own_Fin _ _ _ _ _ _ _ (T0.setTop (mkF m 13 #[.val (.ref x0), .val (.int (0 : Int32)), .val (.int (3 : Int32)), .unset, .val (.int (1 : Int32)), .unset] [(.ref x0)]))
  refine own_of (fun _ kk => XS.iload X0.here hx rfl (hb hby d9_13) rfl kk) ?_
  show own_Fin _ _ _ _ _ _ _ (T0.setTop (mkF m 15 #[.val (.ref x0), .val (.int (0 : Int32)), .val (.int (3 : Int32)), .unset, .val (.int (1 : Int32)), .unset] [(.int (1 : Int32)), (.ref x0)]))
  refine own_of (fun _ kk => XS.dup X0.here hx rfl (hb hby d9_15) rfl rfl kk) ?_
  show own_Fin _ _ _ _ _ _ _ (T0.setTop (mkF m 16 #[.val (.ref x0), .val (.int (0 : Int32)), .val (.int (3 : Int32)), .unset, .val (.int (1 : Int32)), .unset] [(.int (1 : Int32)), (.int (1 : Int32)), (.ref x0)]))
  refine own_of (fun _ kk => XS.istoreN X0.here hx rfl (hb hby d9_16) rfl (l' := #[.val (.ref x0), .val (.int (0 : Int32)), .val (.int (3 : Int32)), .val (.int (1 : Int32)), .val (.int (1 : Int32)), .unset]) rfl kk) ?_
  show own_Fin _ _ _ _ _ _ _ (T0.setTop (mkF m 17 #[.val (.ref x0), .val (.int (0 : Int32)), .val (.int (3 : Int32)), .val (.int (1 : Int32)), .val (.int (1 : Int32)), .unset] [(.int (1 : Int32)), (.ref x0)]))
  refine own_iaload X0 hx hZ e0 A (i := 1) (by decide) (by omega) (v := (.int (f 1))) rfl (hb hby d9_17) ?_
  show own_Fin _ _ _ _ _ _ _ (T0.setTop (mkF m 18 #[.val (.ref x0), .val (.int (0 : Int32)), .val (.int (3 : Int32)), .val (.int (1 : Int32)), .val (.int (1 : Int32)), .unset] [(.int (f 1))]))
  refine own_of (fun _ kk => XS.istore X0.here hx rfl (hb hby d9_18) rfl (l' := #[.val (.ref x0), .val (.int (0 : Int32)), .val (.int (3 : Int32)), .val (.int (1 : Int32)), .val (.int (1 : Int32)), .val (.int (f 1))]) rfl kk) ?_
  show own_Fin _ _ _ _ _ _ _ (T0.setTop (mkF m 20 #[.val (.ref x0), .val (.int (0 : Int32)), .val (.int (3 : Int32)), .val (.int (1 : Int32)), .val (.int (1 : Int32)), .val (.int (f 1))] []))
  refine own_of (fun _ kk => XS.iload X0.here hx rfl (hb hby d9_20) rfl kk) ?_
  show own_Fin _ _ _ _ _ _ _ (T0.setTop (mkF m 22 #[.val (.ref x0), .val (.int (0 : Int32)), .val (.int (3 : Int32)), .val (.int (1 : Int32)), .val (.int (1 : Int32)), .val (.int (f 1))] [(.int (f 1))]))
  refine own_of (fun _ kk => XS.aloadN X0.here hx rfl (hb hby d9_22) rfl rfl kk) ?_
  show own_Fin _ _ _ _ _ _ _ (T0.setTop (mkF m 23 #[.val (.ref x0), .val (.int (0 : Int32)), .val (.int (3 : Int32)), .val (.int (1 : Int32)), .val (.int (1 : Int32)), .val (.int (f 1))] [(.ref x0), (.int (f 1))]))
  refine own_of (fun _ kk => XS.iloadN X0.here hx rfl (hb hby d9_23) rfl kk) ?_
  show own_Fin _ _ _ _ _ _ _ (T0.setTop (mkF m 24 #[.val (.ref x0), .val (.int (0 : Int32)), .val (.int (3 : Int32)), .val (.int (1 : Int32)), .val (.int (1 : Int32)), .val (.int (f 1))] [(.int (1 : Int32)), (.ref x0), (.int (f 1))]))
  refine own_of (fun _ kk => XS.iconst X0.here hx rfl (hb hby d9_24) kk) ?_
  show own_Fin _ _ _ _ _ _ _ (T0.setTop (mkF m 25 #[.val (.ref x0), .val (.int (0 : Int32)), .val (.int (3 : Int32)), .val (.int (1 : Int32)), .val (.int (1 : Int32)), .val (.int (f 1))] [(.int (1 : Int32)), (.int (1 : Int32)), (.ref x0), (.int (f 1))]))
  refine own_of (fun _ kk => XS.isub X0.here hx rfl (hb hby d9_25) rfl kk) ?_
  show own_Fin _ _ _ _ _ _ _ (T0.setTop (mkF m 26 #[.val (.ref x0), .val (.int (0 : Int32)), .val (.int (3 : Int32)), .val (.int (1 : Int32)), .val (.int (1 : Int32)), .val (.int (f 1))] [(.int (0 : Int32)), (.ref x0), (.int (f 1))]))
  refine own_iaload X0 hx hZ e0 A (i := 0) (by decide) (by omega) (v := (.int (f 0))) rfl (hb hby d9_26) ?_
  show own_Fin _ _ _ _ _ _ _ (T0.setTop (mkF m 27 #[.val (.ref x0), .val (.int (0 : Int32)), .val (.int (3 : Int32)), .val (.int (1 : Int32)), .val (.int (1 : Int32)), .val (.int (f 1))] [(.int (f 0)), (.int (f 1))]))
  by_cases c27 : (f 1) < (f 0)
  · refine own_of (fun _ kk => XS.icmpNo X0.here hx rfl (hb hby d9_27) rfl (tlt c27).2.1 kk) ?_
    show own_Fin _ _ _ _ _ _ _ (T0.setTop (mkF m 30 #[.val (.ref x0), .val (.int (0 : Int32)), .val (.int (3 : Int32)), .val (.int (1 : Int32)), .val (.int (1 : Int32)), .val (.int (f 1))] []))
    refine own_of (fun _ kk => XS.iinc X0.here hx rfl (hb hby d9_30) rfl (l' := #[.val (.ref x0), .val (.int (0 : Int32)), .val (.int (3 : Int32)), .val (.int (0 : Int32)), .val (.int (1 : Int32)), .val (.int (f 1))]) rfl kk) ?_
    show own_Fin _ _ _ _ _ _ _ (T0.setTop (mkF m 33 #[.val (.ref x0), .val (.int (0 : Int32)), .val (.int (3 : Int32)), .val (.int (0 : Int32)), .val (.int (1 : Int32)), .val (.int (f 1))] []))
    refine own_of (fun _ kk => XS.iloadN X0.here hx rfl (hb hby d9_33) rfl kk) ?_
    show own_Fin _ _ _ _ _ _ _ (T0.setTop (mkF m 34 #[.val (.ref x0), .val (.int (0 : Int32)), .val (.int (3 : Int32)), .val (.int (0 : Int32)), .val (.int (1 : Int32)), .val (.int (f 1))] [(.int (0 : Int32))]))
    refine own_of (fun _ kk => XS.iloadN X0.here hx rfl (hb hby d9_34) rfl kk) ?_
    show own_Fin _ _ _ _ _ _ _ (T0.setTop (mkF m 35 #[.val (.ref x0), .val (.int (0 : Int32)), .val (.int (3 : Int32)), .val (.int (0 : Int32)), .val (.int (1 : Int32)), .val (.int (f 1))] [(.int (0 : Int32)), (.int (0 : Int32))]))
    refine own_of (fun _ kk => XS.icmpNo X0.here hx rfl (hb hby d9_35) rfl (flt (by decide : ¬ ((0 : Int32) < (0 : Int32)))).1 kk) ?_
    show own_Fin _ _ _ _ _ _ _ (T0.setTop (mkF m 38 #[.val (.ref x0), .val (.int (0 : Int32)), .val (.int (3 : Int32)), .val (.int (0 : Int32)), .val (.int (1 : Int32)), .val (.int (f 1))] []))
    refine own_of (fun _ kk => XS.iload X0.here hx rfl (hb hby d9_38) rfl kk) ?_
    show own_Fin _ _ _ _ _ _ _ (T0.setTop (mkF m 40 #[.val (.ref x0), .val (.int (0 : Int32)), .val (.int (3 : Int32)), .val (.int (0 : Int32)), .val (.int (1 : Int32)), .val (.int (f 1))] [(.int (f 1))]))
    refine own_of (fun _ kk => XS.aloadN X0.here hx rfl (hb hby d9_40) rfl rfl kk) ?_
    show own_Fin _ _ _ _ _ _ _ (T0.setTop (mkF m 41 #[.val (.ref x0), .val (.int (0 : Int32)), .val (.int (3 : Int32)), .val (.int (0 : Int32)), .val (.int (1 : Int32)), .val (.int (f 1))] [(.ref x0), (.int (f 1))]))
    refine own_of (fun _ kk => XS.iloadN X0.here hx rfl (hb hby d9_41) rfl kk) ?_
    show own_Fin _ _ _ _ _ _ _ (T0.setTop (mkF m 42 #[.val (.ref x0), .val (.int (0 : Int32)), .val (.int (3 : Int32)), .val (.int (0 : Int32)), .val (.int (1 : Int32)), .val (.int (f 1))] [(.int (0 : Int32)), (.ref x0), (.int (f 1))]))
    refine own_iaload X0 hx hZ e0 A (i := 0) (by decide) (by omega) (v := (.int (f 0))) rfl (hb hby d9_42) ?_
    show own_Fin _ _ _ _ _ _ _ (T0.setTop (mkF m 43 #[.val (.ref x0), .val (.int (0 : Int32)), .val (.int (3 : Int32)), .val (.int (0 : Int32)), .val (.int (1 : Int32)), .val (.int (f 1))] [(.int (f 0)), (.int (f 1))]))
    by_cases c43 : (f 1) < (f 0)
    · refine own_of (fun _ kk => XS.icmpNo X0.here hx rfl (hb hby d9_43) rfl (tlt c43).2.1 kk) ?_
      show own_Fin _ _ _ _ _ _ _ (T0.setTop (mkF m 46 #[.val (.ref x0), .val (.int (0 : Int32)), .val (.int (3 : Int32)), .val (.int (0 : Int32)), .val (.int (1 : Int32)), .val (.int (f 1))] []))
      refine own_of (fun _ kk => XS.aloadN X0.here hx rfl (hb hby d9_46) rfl rfl kk) ?_
      show own_Fin _ _ _ _ _ _ _ (T0.setTop (mkF m 47 #[.val (.ref x0), .val (.int (0 : Int32)), .val (.int (3 : Int32)), .val (.int (0 : Int32)), .val (.int (1 : Int32)), .val (.int (f 1))] [(.ref x0)]))
      refine own_of (fun _ kk => XS.iloadN X0.here hx rfl (hb hby d9_47) rfl kk) ?_
      show own_Fin _ _ _ _ _ _ _ (T0.setTop (mkF m 48 #[.val (.ref x0), .val (.int (0 : Int32)), .val (.int (3 : Int32)), .val (.int (0 : Int32)), .val (.int (1 : Int32)), .val (.int (f 1))] [(.int (0 : Int32)), (.ref x0)]))
      refine own_of (fun _ kk => XS.iconst X0.here hx rfl (hb hby d9_48) kk) ?_
      show own_Fin _ _ _ _ _ _ _ (T0.setTop (mkF m 49 #[.val (.ref x0), .val (.int (0 : Int32)), .val (.int (3 : Int32)), .val (.int (0 : Int32)), .val (.int (1 : Int32)), .val (.int (f 1))] [(.int (1 : Int32)), (.int (0 : Int32)), (.ref x0)]))
      refine own_of (fun _ kk => XS.iadd X0.here hx rfl (hb hby d9_49) rfl kk) ?_
      show own_Fin _ _ _ _ _ _ _ (T0.setTop (mkF m 50 #[.val (.ref x0), .val (.int (0 : Int32)), .val (.int (3 : Int32)), .val (.int (0 : Int32)), .val (.int (1 : Int32)), .val (.int (f 1))] [(.int (1 : Int32)), (.ref x0)]))
      refine own_of (fun _ kk => XS.aloadN X0.here hx rfl (hb hby d9_50) rfl rfl kk) ?_
      show own_Fin _ _ _ _ _ _ _ (T0.setTop (mkF m 51 #[.val (.ref x0), .val (.int (0 : Int32)), .val (.int (3 : Int32)), .val (.int (0 : Int32)), .val (.int (1 : Int32)), .val (.int (f 1))] [(.ref x0), (.int (1 : Int32)), (.ref x0)]))
      refine own_of (fun _ kk => XS.iloadN X0.here hx rfl (hb hby d9_51) rfl kk) ?_
      show own_Fin _ _ _ _ _ _ _ (T0.setTop (mkF m 52 #[.val (.ref x0), .val (.int (0 : Int32)), .val (.int (3 : Int32)), .val (.int (0 : Int32)), .val (.int (1 : Int32)), .val (.int (f 1))] [(.int (0 : Int32)), (.ref x0), (.int (1 : Int32)), (.ref x0)]))
      refine own_iaload X0 hx hZ e0 A (i := 0) (by decide) (by omega) (v := (.int (f 0))) rfl (hb hby d9_52) ?_
      show own_Fin _ _ _ _ _ _ _ (T0.setTop (mkF m 53 #[.val (.ref x0), .val (.int (0 : Int32)), .val (.int (3 : Int32)), .val (.int (0 : Int32)), .val (.int (1 : Int32)), .val (.int (f 1))] [(.int (f 0)), (.int (1 : Int32)), (.ref x0)]))
      refine own_iastore X0 hx hZ e0 A N0 ge (i := 1) (by decide) (by omega) (hb hby d9_53) ?_
      intro T1 h1 l1 X1 N1 e1 W1 A1
      replace A1 : own_Arf Z h1 x0 .int nw (fun j => if j = 1 then (.int (f 0)) else (fun j => .int (f j)) j) := A1
      have KW1 := K.wr W1 (Or.inl (List.mem_of_getElem? (i := 0) rfl))
      have ZW1 : n0 ≤ h1.size := by rw [Wr.size W1]; exact Z0
      show own_Fin _ _ _ _ _ _ _ (T1.setTop (mkF m 54 #[.val (.ref x0), .val (.int (0 : Int32)), .val (.int (3 : Int32)), .val (.int (0 : Int32)), .val (.int (1 : Int32)), .val (.int (f 1))] []))
      refine own_of (fun _ kk => XS.goto X1.here hx rfl (pc0 := 54) (pc' := 30) rfl (hb hby d9_54) (by decide) (by decide) kk) ?_
      show own_Fin _ _ _ _ _ _ _ (T1.setTop (mkF m 30 #[.val (.ref x0), .val (.int (0 : Int32)), .val (.int (3 : Int32)), .val (.int (0 : Int32)), .val (.int (1 : Int32)), .val (.int (f 1))] []))
      refine own_of (fun _ kk => XS.iinc X1.here hx rfl (hb hby d9_30) rfl (l' := #[.val (.ref x0), .val (.int (0 : Int32)), .val (.int (3 : Int32)), .val (.int (-1 : Int32)), .val (.int (1 : Int32)), .val (.int (f 1))]) rfl kk) ?_
      show own_Fin _ _ _ _ _ _ _ (T1.setTop (mkF m 33 #[.val (.ref x0), .val (.int (0 : Int32)), .val (.int (3 : Int32)), .val (.int (-1 : Int32)), .val (.int (1 : Int32)), .val (.int (f 1))] []))
      refine own_of (fun _ kk => XS.iloadN X1.here hx rfl (hb hby d9_33) rfl kk) ?_
      show own_Fin _ _ _ _ _ _ _ (T1.setTop (mkF m 34 #[.val (.ref x0), .val (.int (0 : Int32)), .val (.int (3 : Int32)), .val (.int (-1 : Int32)), .val (.int (1 : Int32)), .val (.int (f 1))] [(.int (-1 : Int32))]))
      refine own_of (fun _ kk => XS.iloadN X1.here hx rfl (hb hby d9_34) rfl kk) ?_
      show own_Fin _ _ _ _ _ _ _ (T1.setTop (mkF m 35 #[.val (.ref x0), .val (.int (0 : Int32)), .val (.int (3 : Int32)), .val (.int (-1 : Int32)), .val (.int (1 : Int32)), .val (.int (f 1))] [(.int (0 : Int32)), (.int (-1 : Int32))]))
      refine own_of (fun _ kk => XS.icmpYes X1.here hx rfl (pc0 := 35) (pc' := 57) rfl (hb hby d9_35) rfl (tlt (by decide : ((-1 : Int32) < (0 : Int32)))).1 (by decide) (by decide) kk) ?_
      show own_Fin _ _ _ _ _ _ _ (T1.setTop (mkF m 57 #[.val (.ref x0), .val (.int (0 : Int32)), .val (.int (3 : Int32)), .val (.int (-1 : Int32)), .val (.int (1 : Int32)), .val (.int (f 1))] []))
      refine own_of (fun _ kk => XS.aloadN X1.here hx rfl (hb hby d9_57) rfl rfl kk) ?_
      show own_Fin _ _ _ _ _ _ _ (T1.setTop (mkF m 58 #[.val (.ref x0), .val (.int (0 : Int32)), .val (.int (3 : Int32)), .val (.int (-1 : Int32)), .val (.int (1 : Int32)), .val (.int (f 1))] [(.ref x0)]))
      refine own_of (fun _ kk => XS.iloadN X1.here hx rfl (hb hby d9_58) rfl kk) ?_
      show own_Fin _ _ _ _ _ _ _ (T1.setTop (mkF m 59 #[.val (.ref x0), .val (.int (0 : Int32)), .val (.int (3 : Int32)), .val (.int (-1 : Int32)), .val (.int (1 : Int32)), .val (.int (f 1))] [(.int (-1 : Int32)), (.ref x0)]))
      refine own_of (fun _ kk => XS.iconst X1.here hx rfl (hb hby d9_59) kk) ?_
      show own_Fin _ _ _ _ _ _ _ (T1.setTop (mkF m 60 #[.val (.ref x0), .val (.int (0 : Int32)), .val (.int (3 : Int32)), .val (.int (-1 : Int32)), .val (.int (1 : Int32)), .val (.int (f 1))] [(.int (1 : Int32)), (.int (-1 : Int32)), (.ref x0)]))
      refine own_of (fun _ kk => XS.iadd X1.here hx rfl (hb hby d9_60) rfl kk) ?_
      show own_Fin _ _ _ _ _ _ _ (T1.setTop (mkF m 61 #[.val (.ref x0), .val (.int (0 : Int32)), .val (.int (3 : Int32)), .val (.int (-1 : Int32)), .val (.int (1 : Int32)), .val (.int (f 1))] [(.int (0 : Int32)), (.ref x0)]))
      refine own_of (fun _ kk => XS.iload X1.here hx rfl (hb hby d9_61) rfl kk) ?_
      show own_Fin _ _ _ _ _ _ _ (T1.setTop (mkF m 63 #[.val (.ref x0), .val (.int (0 : Int32)), .val (.int (3 : Int32)), .val (.int (-1 : Int32)), .val (.int (1 : Int32)), .val (.int (f 1))] [(.int (f 1)), (.int (0 : Int32)), (.ref x0)]))
      refine own_iastore X1 hx hZ e1 A1 N1 ge (i := 0) (by decide) (by omega) (hb hby d9_63) ?_
      intro T2 h2 l2 X2 N2 e2 W2 A2
      replace A2 : own_Arf Z h2 x0 .int nw (fun j => if j = 0 then (.int (f 1)) else (fun j => if j = 1 then (.int (f 0)) else (fun j => .int (f j)) j) j) := A2
      have KW2 := KW1.wr W2 (Or.inl (List.mem_of_getElem? (i := 0) rfl))
      have ZW2 : n0 ≤ h2.size := by rw [Wr.size W2]; exact ZW1
      show own_Fin _ _ _ _ _ _ _ (T2.setTop (mkF m 64 #[.val (.ref x0), .val (.int (0 : Int32)), .val (.int (3 : Int32)), .val (.int (-1 : Int32)), .val (.int (1 : Int32)), .val (.int (f 1))] []))
      refine own_of (fun _ kk => XS.goto X2.here hx rfl (pc0 := 64) (pc' := 3) rfl (hb hby d9_64) (by decide) (by decide) kk) ?_
      show own_Fin _ _ _ _ _ _ _ (T2.setTop (mkF m 3 #[.val (.ref x0), .val (.int (0 : Int32)), .val (.int (3 : Int32)), .val (.int (-1 : Int32)), .val (.int (1 : Int32)), .val (.int (f 1))] []))
      refine own_of (fun _ kk => XS.iinc X2.here hx rfl (hb hby d9_3) rfl (l' := #[.val (.ref x0), .val (.int (0 : Int32)), .val (.int (3 : Int32)), .val (.int (-1 : Int32)), .val (.int (2 : Int32)), .val (.int (f 1))]) rfl kk) ?_
      show own_Fin _ _ _ _ _ _ _ (T2.setTop (mkF m 6 #[.val (.ref x0), .val (.int (0 : Int32)), .val (.int (3 : Int32)), .val (.int (-1 : Int32)), .val (.int (2 : Int32)), .val (.int (f 1))] []))
      refine own_of (fun _ kk => XS.iload X2.here hx rfl (hb hby d9_6) rfl kk) ?_
      show own_Fin _ _ _ _ _ _ _ (T2.setTop (mkF m 8 #[.val (.ref x0), .val (.int (0 : Int32)), .val (.int (3 : Int32)), .val (.int (-1 : Int32)), .val (.int (2 : Int32)), .val (.int (f 1))] [(.int (2 : Int32))]))
      refine own_of (fun _ kk => XS.iloadN X2.here hx rfl (hb hby d9_8) rfl kk) ?_
      show own_Fin _ _ _ _ _ _ _ (T2.setTop (mkF m 9 #[.val (.ref x0), .val (.int (0 : Int32)), .val (.int (3 : Int32)), .val (.int (-1 : Int32)), .val (.int (2 : Int32)), .val (.int (f 1))] [(.int (3 : Int32)), (.int (2 : Int32))]))
      refine own_of (fun _ kk => XS.icmpNo X2.here hx rfl (hb hby d9_9) rfl (tlt (by decide : ((2 : Int32) < (3 : Int32)))).2.1 kk) ?_
      show own_Fin _ _ _ _ _ _ _ (T2.setTop (mkF m 12 #[.val (.ref x0), .val (.int (0 : Int32)), .val (.int (3 : Int32)), .val (.int (-1 : Int32)), .val (.int (2 : Int32)), .val (.int (f 1))] []))
      refine own_of (fun _ kk => XS.aloadN X2.here hx rfl (hb hby d9_12) rfl rfl kk) ?_
      show own_Fin _ _ _ _ _ _ _ (T2.setTop (mkF m 13 #[.val (.ref x0), .val (.int (0 : Int32)), .val (.int (3 : Int32)), .val (.int (-1 : Int32)), .val (.int (2 : Int32)), .val (.int (f 1))] [(.ref x0)]))
      refine own_of (fun _ kk => XS.iload X2.here hx rfl (hb hby d9_13) rfl kk) ?_
      show own_Fin _ _ _ _ _ _ _ (T2.setTop (mkF m 15 #[.val (.ref x0), .val (.int (0 : Int32)), .val (.int (3 : Int32)), .val (.int (-1 : Int32)), .val (.int (2 : Int32)), .val (.int (f 1))] [(.int (2 : Int32)), (.ref x0)]))
      refine own_of (fun _ kk => XS.dup X2.here hx rfl (hb hby d9_15) rfl rfl kk) ?_
      show own_Fin _ _ _ _ _ _ _ (T2.setTop (mkF m 16 #[.val (.ref x0), .val (.int (0 : Int32)), .val (.int (3 : Int32)), .val (.int (-1 : Int32)), .val (.int (2 : Int32)), .val (.int (f 1))] [(.int (2 : Int32)), (.int (2 : Int32)), (.ref x0)]))
      refine own_of (fun _ kk => XS.istoreN X2.here hx rfl (hb hby d9_16) rfl (l' := #[.val (.ref x0), .val (.int (0 : Int32)), .val (.int (3 : Int32)), .val (.int (2 : Int32)), .val (.int (2 : Int32)), .val (.int (f 1))]) rfl kk) ?_
      show own_Fin _ _ _ _ _ _ _ (T2.setTop (mkF m 17 #[.val (.ref x0), .val (.int (0 : Int32)), .val (.int (3 : Int32)), .val (.int (2 : Int32)), .val (.int (2 : Int32)), .val (.int (f 1))] [(.int (2 : Int32)), (.ref x0)]))
      refine own_iaload X2 hx hZ e2 A2 (i := 2) (by decide) (by omega) (v := (.int (f 2))) rfl (hb hby d9_17) ?_
      show own_Fin _ _ _ _ _ _ _ (T2.setTop (mkF m 18 #[.val (.ref x0), .val (.int (0 : Int32)), .val (.int (3 : Int32)), .val (.int (2 : Int32)), .val (.int (2 : Int32)), .val (.int (f 1))] [(.int (f 2))]))
      refine own_of (fun _ kk => XS.istore X2.here hx rfl (hb hby d9_18) rfl (l' := #[.val (.ref x0), .val (.int (0 : Int32)), .val (.int (3 : Int32)), .val (.int (2 : Int32)), .val (.int (2 : Int32)), .val (.int (f 2))]) rfl kk) ?_
      show own_Fin _ _ _ _ _ _ _ (T2.setTop (mkF m 20 #[.val (.ref x0), .val (.int (0 : Int32)), .val (.int (3 : Int32)), .val (.int (2 : Int32)), .val (.int (2 : Int32)), .val (.int (f 2))] []))
      refine own_of (fun _ kk => XS.iload X2.here hx rfl (hb hby d9_20) rfl kk) ?_
      show own_Fin _ _ _ _ _ _ _ (T2.setTop (mkF m 22 #[.val (.ref x0), .val (.int (0 : Int32)), .val (.int (3 : Int32)), .val (.int (2 : Int32)), .val (.int (2 : Int32)), .val (.int (f 2))] [(.int (f 2))]))
      refine own_of (fun _ kk => XS.aloadN X2.here hx rfl (hb hby d9_22) rfl rfl kk) ?_
      show own_Fin _ _ _ _ _ _ _ (T2.setTop (mkF m 23 #[.val (.ref x0), .val (.int (0 : Int32)), .val (.int (3 : Int32)), .val (.int (2 : Int32)), .val (.int (2 : Int32)), .val (.int (f 2))] [(.ref x0), (.int (f 2))]))
      refine own_of (fun _ kk => XS.iloadN X2.here hx rfl (hb hby d9_23) rfl kk) ?_
      show own_Fin _ _ _ _ _ _ _ (T2.setTop (mkF m 24 #[.val (.ref x0), .val (.int (0 : Int32)), .val (.int (3 : Int32)), .val (.int (2 : Int32)), .val (.int (2 : Int32)), .val (.int (f 2))] [(.int (2 : Int32)), (.ref x0), (.int (f 2))]))
      refine own_of (fun _ kk => XS.iconst X2.here hx rfl (hb hby d9_24) kk) ?_
      show own_Fin _ _ _ _ _ _ _ (T2.setTop (mkF m 25 #[.val (.ref x0), .val (.int (0 : Int32)), .val (.int (3 : Int32)), .val (.int (2 : Int32)), .val (.int (2 : Int32)), .val (.int (f 2))] [(.int (1 : Int32)), (.int (2 : Int32)), (.ref x0), (.int (f 2))]))
      refine own_of (fun _ kk => XS.isub X2.here hx rfl (hb hby d9_25) rfl kk) ?_
      show own_Fin _ _ _ _ _ _ _ (T2.setTop (mkF m 26 #[.val (.ref x0), .val (.int (0 : Int32)), .val (.int (3 : Int32)), .val (.int (2 : Int32)), .val (.int (2 : Int32)), .val (.int (f 2))] [(.int (1 : Int32)), (.ref x0), (.int (f 2))]))
      refine own_iaload X2 hx hZ e2 A2 (i := 1) (by decide) (by omega) (v := (.int (f 0))) rfl (hb hby d9_26) ?_
      show own_Fin _ _ _ _ _ _ _ (T2.setTop (mkF m 27 #[.val (.ref x0), .val (.int (0 : Int32)), .val (.int (3 : Int32)), .val (.int (2 : Int32)), .val (.int (2 : Int32)), .val (.int (f 2))] [(.int (f 0)), (.int (f 2))]))
      by_cases c27_3 : (f 2) < (f 0)
      · refine own_of (fun _ kk => XS.icmpNo X2.here hx rfl (hb hby d9_27) rfl (tlt c27_3).2.1 kk) ?_
        show own_Fin _ _ _ _ _ _ _ (T2.setTop (mkF m 30 #[.val (.ref x0), .val (.int (0 : Int32)), .val (.int (3 : Int32)), .val (.int (2 : Int32)), .val (.int (2 : Int32)), .val (.int (f 2))] []))
        refine own_of (fun _ kk => XS.iinc X2.here hx rfl (hb hby d9_30) rfl (l' := #[.val (.ref x0), .val (.int (0 : Int32)), .val (.int (3 : Int32)), .val (.int (1 : Int32)), .val (.int (2 : Int32)), .val (.int (f 2))]) rfl kk) ?_
        show own_Fin _ _ _ _ _ _ _ (T2.setTop (mkF m 33 #[.val (.ref x0), .val (.int (0 : Int32)), .val (.int (3 : Int32)), .val (.int (1 : Int32)), .val (.int (2 : Int32)), .val (.int (f 2))] []))
        refine own_of (fun _ kk => XS.iloadN X2.here hx rfl (hb hby d9_33) rfl kk) ?_
        show own_Fin _ _ _ _ _ _ _ (T2.setTop (mkF m 34 #[.val (.ref x0), .val (.int (0 : Int32)), .val (.int (3 : Int32)), .val (.int (1 : Int32)), .val (.int (2 : Int32)), .val (.int (f 2))] [(.int (1 : Int32))]))
        refine own_of (fun _ kk => XS.iloadN X2.here hx rfl (hb hby d9_34) rfl kk) ?_
        show own_Fin _ _ _ _ _ _ _ (T2.setTop (mkF m 35 #[.val (.ref x0), .val (.int (0 : Int32)), .val (.int (3 : Int32)), .val (.int (1 : Int32)), .val (.int (2 : Int32)), .val (.int (f 2))] [(.int (0 : Int32)), (.int (1 : Int32))]))
        refine own_of (fun _ kk => XS.icmpNo X2.here hx rfl (hb hby d9_35) rfl (flt (by decide : ¬ ((1 : Int32) < (0 : Int32)))).1 kk) ?_
        show own_Fin _ _ _ _ _ _ _ (T2.setTop (mkF m 38 #[.val (.ref x0), .val (.int (0 : Int32)), .val (.int (3 : Int32)), .val (.int (1 : Int32)), .val (.int (2 : Int32)), .val (.int (f 2))] []))
        refine own_of (fun _ kk => XS.iload X2.here hx rfl (hb hby d9_38) rfl kk) ?_
        show own_Fin _ _ _ _ _ _ _ (T2.setTop (mkF m 40 #[.val (.ref x0), .val (.int (0 : Int32)), .val (.int (3 : Int32)), .val (.int (1 : Int32)), .val (.int (2 : Int32)), .val (.int (f 2))] [(.int (f 2))]))
        refine own_of (fun _ kk => XS.aloadN X2.here hx rfl (hb hby d9_40) rfl rfl kk) ?_
        show own_Fin _ _ _ _ _ _ _ (T2.setTop (mkF m 41 #[.val (.ref x0), .val (.int (0 : Int32)), .val (.int (3 : Int32)), .val (.int (1 : Int32)), .val (.int (2 : Int32)), .val (.int (f 2))] [(.ref x0), (.int (f 2))]))
        refine own_of (fun _ kk => XS.iloadN X2.here hx rfl (hb hby d9_41) rfl kk) ?_
        show own_Fin _ _ _ _ _ _ _ (T2.setTop (mkF m 42 #[.val (.ref x0), .val (.int (0 : Int32)), .val (.int (3 : Int32)), .val (.int (1 : Int32)), .val (.int (2 : Int32)), .val (.int (f 2))] [(.int (1 : Int32)), (.ref x0), (.int (f 2))]))
        refine own_iaload X2 hx hZ e2 A2 (i := 1) (by decide) (by omega) (v := (.int (f 0))) rfl (hb hby d9_42) ?_
        show own_Fin _ _ _ _ _ _ _ (T2.setTop (mkF m 43 #[.val (.ref x0), .val (.int (0 : Int32)), .val (.int (3 : Int32)), .val (.int (1 : Int32)), .val (.int (2 : Int32)), .val (.int (f 2))] [(.int (f 0)), (.int (f 2))]))
        by_cases c43_4 : (f 2) < (f 0)
        · refine own_of (fun _ kk => XS.icmpNo X2.here hx rfl (hb hby d9_43) rfl (tlt c43_4).2.1 kk) ?_
          show own_Fin _ _ _ _ _ _ _ (T2.setTop (mkF m 46 #[.val (.ref x0), .val (.int (0 : Int32)), .val (.int (3 : Int32)), .val (.int (1 : Int32)), .val (.int (2 : Int32)), .val (.int (f 2))] []))
          refine own_of (fun _ kk => XS.aloadN X2.here hx rfl (hb hby d9_46) rfl rfl kk) ?_
          show own_Fin _ _ _ _ _ _ _ (T2.setTop (mkF m 47 #[.val (.ref x0), .val (.int (0 : Int32)), .val (.int (3 : Int32)), .val (.int (1 : Int32)), .val (.int (2 : Int32)), .val (.int (f 2))] [(.ref x0)]))
          refine own_of (fun _ kk => XS.iloadN X2.here hx rfl (hb hby d9_47) rfl kk) ?_
          show own_Fin _ _ _ _ _ _ _ (T2.setTop (mkF m 48 #[.val (.ref x0), .val (.int (0 : Int32)), .val (.int (3 : Int32)), .val (.int (1 : Int32)), .val (.int (2 : Int32)), .val (.int (f 2))] [(.int (1 : Int32)), (.ref x0)]))
          refine own_of (fun _ kk => XS.iconst X2.here hx rfl (hb hby d9_48) kk) ?_
          show own_Fin _ _ _ _ _ _ _ (T2.setTop (mkF m 49 #[.val (.ref x0), .val (.int (0 : Int32)), .val (.int (3 : Int32)), .val (.int (1 : Int32)), .val (.int (2 : Int32)), .val (.int (f 2))] [(.int (1 : Int32)), (.int (1 : Int32)), (.ref x0)]))
          refine own_of (fun _ kk => XS.iadd X2.here hx rfl (hb hby d9_49) rfl kk) ?_
          show own_Fin _ _ _ _ _ _ _ (T2.setTop (mkF m 50 #[.val (.ref x0), .val (.int (0 : Int32)), .val (.int (3 : Int32)), .val (.int (1 : Int32)), .val (.int (2 : Int32)), .val (.int (f 2))] [(.int (2 : Int32)), (.ref x0)]))
          refine own_of (fun _ kk => XS.aloadN X2.here hx rfl (hb hby d9_50) rfl rfl kk) ?_
          show own_Fin _ _ _ _ _ _ _ (T2.setTop (mkF m 51 #[.val (.ref x0), .val (.int (0 : Int32)), .val (.int (3 : Int32)), .val (.int (1 : Int32)), .val (.int (2 : Int32)), .val (.int (f 2))] [(.ref x0), (.int (2 : Int32)), (.ref x0)]))
          refine own_of (fun _ kk => XS.iloadN X2.here hx rfl (hb hby d9_51) rfl kk) ?_
          show own_Fin _ _ _ _ _ _ _ (T2.setTop (mkF m 52 #[.val (.ref x0), .val (.int (0 : Int32)), .val (.int (3 : Int32)), .val (.int (1 : Int32)), .val (.int (2 : Int32)), .val (.int (f 2))] [(.int (1 : Int32)), (.ref x0), (.int (2 : Int32)), (.ref x0)]))
          refine own_iaload X2 hx hZ e2 A2 (i := 1) (by decide) (by omega) (v := (.int (f 0))) rfl (hb hby d9_52) ?_
          show own_Fin _ _ _ _ _ _ _ (T2.setTop (mkF m 53 #[.val (.ref x0), .val (.int (0 : Int32)), .val (.int (3 : Int32)), .val (.int (1 : Int32)), .val (.int (2 : Int32)), .val (.int (f 2))] [(.int (f 0)), (.int (2 : Int32)), (.ref x0)]))
          refine own_iastore X2 hx hZ e2 A2 N2 ge (i := 2) (by decide) (by omega) (hb hby d9_53) ?_
          intro T5 h5 l5 X5 N5 e5 W5 A5
          replace A5 : own_Arf Z h5 x0 .int nw (fun j => if j = 2 then (.int (f 0)) else (fun j => if j = 0 then (.int (f 1)) else (fun j => if j = 1 then (.int (f 0)) else (fun j => .int (f j)) j) j) j) := A5
          have KW5 := KW2.wr W5 (Or.inl (List.mem_of_getElem? (i := 0) rfl))
          have ZW5 : n0 ≤ h5.size := by rw [Wr.size W5]; exact ZW2
          show own_Fin _ _ _ _ _ _ _ (T5.setTop (mkF m 54 #[.val (.ref x0), .val (.int (0 : Int32)), .val (.int (3 : Int32)), .val (.int (1 : Int32)), .val (.int (2 : Int32)), .val (.int (f 2))] []))
          refine own_of (fun _ kk => XS.goto X5.here hx rfl (pc0 := 54) (pc' := 30) rfl (hb hby d9_54) (by decide) (by decide) kk) ?_
          show own_Fin _ _ _ _ _ _ _ (T5.setTop (mkF m 30 #[.val (.ref x0), .val (.int (0 : Int32)), .val (.int (3 : Int32)), .val (.int (1 : Int32)), .val (.int (2 : Int32)), .val (.int (f 2))] []))
          refine own_of (fun _ kk => XS.iinc X5.here hx rfl (hb hby d9_30) rfl (l' := #[.val (.ref x0), .val (.int (0 : Int32)), .val (.int (3 : Int32)), .val (.int (0 : Int32)), .val (.int (2 : Int32)), .val (.int (f 2))]) rfl kk) ?_
          show own_Fin _ _ _ _ _ _ _ (T5.setTop (mkF m 33 #[.val (.ref x0), .val (.int (0 : Int32)), .val (.int (3 : Int32)), .val (.int (0 : Int32)), .val (.int (2 : Int32)), .val (.int (f 2))] []))
          refine own_of (fun _ kk => XS.iloadN X5.here hx rfl (hb hby d9_33) rfl kk) ?_
          show own_Fin _ _ _ _ _ _ _ (T5.setTop (mkF m 34 #[.val (.ref x0), .val (.int (0 : Int32)), .val (.int (3 : Int32)), .val (.int (0 : Int32)), .val (.int (2 : Int32)), .val (.int (f 2))] [(.int (0 : Int32))]))
          refine own_of (fun _ kk => XS.iloadN X5.here hx rfl (hb hby d9_34) rfl kk) ?_
          show own_Fin _ _ _ _ _ _ _ (T5.setTop (mkF m 35 #[.val (.ref x0), .val (.int (0 : Int32)), .val (.int (3 : Int32)), .val (.int (0 : Int32)), .val (.int (2 : Int32)), .val (.int (f 2))] [(.int (0 : Int32)), (.int (0 : Int32))]))
          refine own_of (fun _ kk => XS.icmpNo X5.here hx rfl (hb hby d9_35) rfl (flt (by decide : ¬ ((0 : Int32) < (0 : Int32)))).1 kk) ?_
          show own_Fin _ _ _ _ _ _ _ (T5.setTop (mkF m 38 #[.val (.ref x0), .val (.int (0 : Int32)), .val (.int (3 : Int32)), .val (.int (0 : Int32)), .val (.int (2 : Int32)), .val (.int (f 2))] []))
          refine own_of (fun _ kk => XS.iload X5.here hx rfl (hb hby d9_38) rfl kk) ?_
          show own_Fin _ _ _ _ _ _ _ (T5.setTop (mkF m 40 #[.val (.ref x0), .val (.int (0 : Int32)), .val (.int (3 : Int32)), .val (.int (0 : Int32)), .val (.int (2 : Int32)), .val (.int (f 2))] [(.int (f 2))]))
          refine own_of (fun _ kk => XS.aloadN X5.here hx rfl (hb hby d9_40) rfl rfl kk) ?_
          show own_Fin _ _ _ _ _ _ _ (T5.setTop (mkF m 41 #[.val (.ref x0), .val (.int (0 : Int32)), .val (.int (3 : Int32)), .val (.int (0 : Int32)), .val (.int (2 : Int32)), .val (.int (f 2))] [(.ref x0), (.int (f 2))]))
          refine own_of (fun _ kk => XS.iloadN X5.here hx rfl (hb hby d9_41) rfl kk) ?_
          show own_Fin _ _ _ _ _ _ _ (T5.setTop (mkF m 42 #[.val (.ref x0), .val (.int (0 : Int32)), .val (.int (3 : Int32)), .val (.int (0 : Int32)), .val (.int (2 : Int32)), .val (.int (f 2))] [(.int (0 : Int32)), (.ref x0), (.int (f 2))]))
          refine own_iaload X5 hx hZ e5 A5 (i := 0) (by decide) (by omega) (v := (.int (f 1))) rfl (hb hby d9_42) ?_
          show own_Fin _ _ _ _ _ _ _ (T5.setTop (mkF m 43 #[.val (.ref x0), .val (.int (0 : Int32)), .val (.int (3 : Int32)), .val (.int (0 : Int32)), .val (.int (2 : Int32)), .val (.int (f 2))] [(.int (f 1)), (.int (f 2))]))
          by_cases c43_6 : (f 2) < (f 1)
          · refine own_of (fun _ kk => XS.icmpNo X5.here hx rfl (hb hby d9_43) rfl (tlt c43_6).2.1 kk) ?_
            show own_Fin _ _ _ _ _ _ _ (T5.setTop (mkF m 46 #[.val (.ref x0), .val (.int (0 : Int32)), .val (.int (3 : Int32)), .val (.int (0 : Int32)), .val (.int (2 : Int32)), .val (.int (f 2))] []))
            refine own_of (fun _ kk => XS.aloadN X5.here hx rfl (hb hby d9_46) rfl rfl kk) ?_
            show own_Fin _ _ _ _ _ _ _ (T5.setTop (mkF m 47 #[.val (.ref x0), .val (.int (0 : Int32)), .val (.int (3 : Int32)), .val (.int (0 : Int32)), .val (.int (2 : Int32)), .val (.int (f 2))] [(.ref x0)]))
            refine own_of (fun _ kk => XS.iloadN X5.here hx rfl (hb hby d9_47) rfl kk) ?_
            show own_Fin _ _ _ _ _ _ _ (T5.setTop (mkF m 48 #[.val (.ref x0), .val (.int (0 : Int32)), .val (.int (3 : Int32)), .val (.int (0 : Int32)), .val (.int (2 : Int32)), .val (.int (f 2))] [(.int (0 : Int32)), (.ref x0)]))
            refine own_of (fun _ kk => XS.iconst X5.here hx rfl (hb hby d9_48) kk) ?_
            show own_Fin _ _ _ _ _ _ _ (T5.setTop (mkF m 49 #[.val (.ref x0), .val (.int (0 : Int32)), .val (.int (3 : Int32)), .val (.int (0 : Int32)), .val (.int (2 : Int32)), .val (.int (f 2))] [(.int (1 : Int32)), (.int (0 : Int32)), (.ref x0)]))
            refine own_of (fun _ kk => XS.iadd X5.here hx rfl (hb hby d9_49) rfl kk) ?_
            show own_Fin _ _ _ _ _ _ _ (T5.setTop (mkF m 50 #[.val (.ref x0), .val (.int (0 : Int32)), .val (.int (3 : Int32)), .val (.int (0 : Int32)), .val (.int (2 : Int32)), .val (.int (f 2))] [(.int (1 : Int32)), (.ref x0)]))
            refine own_of (fun _ kk => XS.aloadN X5.here hx rfl (hb hby d9_50) rfl rfl kk) ?_
            show own_Fin _ _ _ _ _ _ _ (T5.setTop (mkF m 51 #[.val (.ref x0), .val (.int (0 : Int32)), .val (.int (3 : Int32)), .val (.int (0 : Int32)), .val (.int (2 : Int32)), .val (.int (f 2))] [(.ref x0), (.int (1 : Int32)), (.ref x0)]))
            refine own_of (fun _ kk => XS.iloadN X5.here hx rfl (hb hby d9_51) rfl kk) ?_
            show own_Fin _ _ _ _ _ _ _ (T5.setTop (mkF m 52 #[.val (.ref x0), .val (.int (0 : Int32)), .val (.int (3 : Int32)), .val (.int (0 : Int32)), .val (.int (2 : Int32)), .val (.int (f 2))] [(.int (0 : Int32)), (.ref x0), (.int (1 : Int32)), (.ref x0)]))
            refine own_iaload X5 hx hZ e5 A5 (i := 0) (by decide) (by omega) (v := (.int (f 1))) rfl (hb hby d9_52) ?_
            show own_Fin _ _ _ _ _ _ _ (T5.setTop (mkF m 53 #[.val (.ref x0), .val (.int (0 : Int32)), .val (.int (3 : Int32)), .val (.int (0 : Int32)), .val (.int (2 : Int32)), .val (.int (f 2))] [(.int (f 1)), (.int (1 : Int32)), (.ref x0)]))
            refine own_iastore X5 hx hZ e5 A5 N5 ge (i := 1) (by decide) (by omega) (hb hby d9_53) ?_
            intro T7 h7 l7 X7 N7 e7 W7 A7
            replace A7 : own_Arf Z h7 x0 .int nw (fun j => if j = 1 then (.int (f 1)) else (fun j => if j = 2 then (.int (f 0)) else (fun j => if j = 0 then (.int (f 1)) else (fun j => if j = 1 then (.int (f 0)) else (fun j => .int (f j)) j) j) j) j) := A7
            have KW7 := KW5.wr W7 (Or.inl (List.mem_of_getElem? (i := 0) rfl))
            have ZW7 : n0 ≤ h7.size := by rw [Wr.size W7]; exact ZW5
            show own_Fin _ _ _ _ _ _ _ (T7.setTop (mkF m 54 #[.val (.ref x0), .val (.int (0 : Int32)), .val (.int (3 : Int32)), .val (.int (0 : Int32)), .val (.int (2 : Int32)), .val (.int (f 2))] []))
            refine own_of (fun _ kk => XS.goto X7.here hx rfl (pc0 := 54) (pc' := 30) rfl (hb hby d9_54) (by decide) (by decide) kk) ?_
            show own_Fin _ _ _ _ _ _ _ (T7.setTop (mkF m 30 #[.val (.ref x0), .val (.int (0 : Int32)), .val (.int (3 : Int32)), .val (.int (0 : Int32)), .val (.int (2 : Int32)), .val (.int (f 2))] []))
            refine own_of (fun _ kk => XS.iinc X7.here hx rfl (hb hby d9_30) rfl (l' := #[.val (.ref x0), .val (.int (0 : Int32)), .val (.int (3 : Int32)), .val (.int (-1 : Int32)), .val (.int (2 : Int32)), .val (.int (f 2))]) rfl kk) ?_
            show own_Fin _ _ _ _ _ _ _ (T7.setTop (mkF m 33 #[.val (.ref x0), .val (.int (0 : Int32)), .val (.int (3 : Int32)), .val (.int (-1 : Int32)), .val (.int (2 : Int32)), .val (.int (f 2))] []))
            refine own_of (fun _ kk => XS.iloadN X7.here hx rfl (hb hby d9_33) rfl kk) ?_
            show own_Fin _ _ _ _ _ _ _ (T7.setTop (mkF m 34 #[.val (.ref x0), .val (.int (0 : Int32)), .val (.int (3 : Int32)), .val (.int (-1 : Int32)), .val (.int (2 : Int32)), .val (.int (f 2))] [(.int (-1 : Int32))]))
            refine own_of (fun _ kk => XS.iloadN X7.here hx rfl (hb hby d9_34) rfl kk) ?_
            show own_Fin _ _ _ _ _ _ _ (T7.setTop (mkF m 35 #[.val (.ref x0), .val (.int (0 : Int32)), .val (.int (3 : Int32)), .val (.int (-1 : Int32)), .val (.int (2 : Int32)), .val (.int (f 2))] [(.int (0 : Int32)), (.int (-1 : Int32))]))
            refine own_of (fun _ kk => XS.icmpYes X7.here hx rfl (pc0 := 35) (pc' := 57) rfl (hb hby d9_35) rfl (tlt (by decide : ((-1 : Int32) < (0 : Int32)))).1 (by decide) (by decide) kk) ?_
            show own_Fin _ _ _ _ _ _ _ (T7.setTop (mkF m 57 #[.val (.ref x0), .val (.int (0 : Int32)), .val (.int (3 : Int32)), .val (.int (-1 : Int32)), .val (.int (2 : Int32)), .val (.int (f 2))] []))
            refine own_of (fun _ kk => XS.aloadN X7.here hx rfl (hb hby d9_57) rfl rfl kk) ?_
            show own_Fin _ _ _ _ _ _ _ (T7.setTop (mkF m 58 #[.val (.ref x0), .val (.int (0 : Int32)), .val (.int (3 : Int32)), .val (.int (-1 : Int32)), .val (.int (2 : Int32)), .val (.int (f 2))] [(.ref x0)]))
            refine own_of (fun _ kk => XS.iloadN X7.here hx rfl (hb hby d9_58) rfl kk) ?_
            show own_Fin _ _ _ _ _ _ _ (T7.setTop (mkF m 59 #[.val (.ref x0), .val (.int (0 : Int32)), .val (.int (3 : Int32)), .val (.int (-1 : Int32)), .val (.int (2 : Int32)), .val (.int (f 2))] [(.int (-1 : Int32)), (.ref x0)]))
            refine own_of (fun _ kk => XS.iconst X7.here hx rfl (hb hby d9_59) kk) ?_
            show own_Fin _ _ _ _ _ _ _ (T7.setTop (mkF m 60 #[.val (.ref x0), .val (.int (0 : Int32)), .val (.int (3 : Int32)), .val (.int (-1 : Int32)), .val (.int (2 : Int32)), .val (.int (f 2))] [(.int (1 : Int32)), (.int (-1 : Int32)), (.ref x0)]))
            refine own_of (fun _ kk => XS.iadd X7.here hx rfl (hb hby d9_60) rfl kk) ?_
            show own_Fin _ _ _ _ _ _ _ (T7.setTop (mkF m 61 #[.val (.ref x0), .val (.int (0 : Int32)), .val (.int (3 : Int32)), .val (.int (-1 : Int32)), .val (.int (2 : Int32)), .val (.int (f 2))] [(.int (0 : Int32)), (.ref x0)]))
            refine own_of (fun _ kk => XS.iload X7.here hx rfl (hb hby d9_61) rfl kk) ?_
            show own_Fin _ _ _ _ _ _ _ (T7.setTop (mkF m 63 #[.val (.ref x0), .val (.int (0 : Int32)), .val (.int (3 : Int32)), .val (.int (-1 : Int32)), .val (.int (2 : Int32)), .val (.int (f 2))] [(.int (f 2)), (.int (0 : Int32)), (.ref x0)]))
            refine own_iastore X7 hx hZ e7 A7 N7 ge (i := 0) (by decide) (by omega) (hb hby d9_63) ?_
            intro T8 h8 l8 X8 N8 e8 W8 A8
            replace A8 : own_Arf Z h8 x0 .int nw (fun j => if j = 0 then (.int (f 2)) else (fun j => if j = 1 then (.int (f 1)) else (fun j => if j = 2 then (.int (f 0)) else (fun j => if j = 0 then (.int (f 1)) else (fun j => if j = 1 then (.int (f 0)) else (fun j => .int (f j)) j) j) j) j) j) := A8
            have KW8 := KW7.wr W8 (Or.inl (List.mem_of_getElem? (i := 0) rfl))
            have ZW8 : n0 ≤ h8.size := by rw [Wr.size W8]; exact ZW7
            show own_Fin _ _ _ _ _ _ _ (T8.setTop (mkF m 64 #[.val (.ref x0), .val (.int (0 : Int32)), .val (.int (3 : Int32)), .val (.int (-1 : Int32)), .val (.int (2 : Int32)), .val (.int (f 2))] []))
            refine own_of (fun _ kk => XS.goto X8.here hx rfl (pc0 := 64) (pc' := 3) rfl (hb hby d9_64) (by decide) (by decide) kk) ?_
            show own_Fin _ _ _ _ _ _ _ (T8.setTop (mkF m 3 #[.val (.ref x0), .val (.int (0 : Int32)), .val (.int (3 : Int32)), .val (.int (-1 : Int32)), .val (.int (2 : Int32)), .val (.int (f 2))] []))
            refine own_of (fun _ kk => XS.iinc X8.here hx rfl (hb hby d9_3) rfl (l' := #[.val (.ref x0), .val (.int (0 : Int32)), .val (.int (3 : Int32)), .val (.int (-1 : Int32)), .val (.int (3 : Int32)), .val (.int (f 2))]) rfl kk) ?_
            show own_Fin _ _ _ _ _ _ _ (T8.setTop (mkF m 6 #[.val (.ref x0), .val (.int (0 : Int32)), .val (.int (3 : Int32)), .val (.int (-1 : Int32)), .val (.int (3 : Int32)), .val (.int (f 2))] []))
            refine own_of (fun _ kk => XS.iload X8.here hx rfl (hb hby d9_6) rfl kk) ?_
            show own_Fin _ _ _ _ _ _ _ (T8.setTop (mkF m 8 #[.val (.ref x0), .val (.int (0 : Int32)), .val (.int (3 : Int32)), .val (.int (-1 : Int32)), .val (.int (3 : Int32)), .val (.int (f 2))] [(.int (3 : Int32))]))
            refine own_of (fun _ kk => XS.iloadN X8.here hx rfl (hb hby d9_8) rfl kk) ?_
            show own_Fin _ _ _ _ _ _ _ (T8.setTop (mkF m 9 #[.val (.ref x0), .val (.int (0 : Int32)), .val (.int (3 : Int32)), .val (.int (-1 : Int32)), .val (.int (3 : Int32)), .val (.int (f 2))] [(.int (3 : Int32)), (.int (3 : Int32))]))
            refine own_of (fun _ kk => XS.icmpYes X8.here hx rfl (pc0 := 9) (pc' := 67) rfl (hb hby d9_9) rfl (flt (by decide : ¬ ((3 : Int32) < (3 : Int32)))).2.1 (by decide) (by decide) kk) ?_
            show own_Fin _ _ _ _ _ _ _ (T8.setTop (mkF m 67 #[.val (.ref x0), .val (.int (0 : Int32)), .val (.int (3 : Int32)), .val (.int (-1 : Int32)), .val (.int (3 : Int32)), .val (.int (f 2))] []))
            exact own_retV X8 hx hlk e8 hret (hb hby d9_67) (by decide) (by decide) ⟨rfl, N8, ZW8, own_tri (f 2) (f 1) (f 0) f, (A8.congr fun j _ => own_tris (F := (fun j => if j = 0 then (.int (f 2)) else (fun j => if j = 1 then (.int (f 1)) else (fun j => if j = 2 then (.int (f 0)) else (fun j => if j = 0 then (.int (f 1)) else (fun j => if j = 1 then (.int (f 0)) else (fun j => .int (f j)) j) j) j) j) j)) (X := (f 2)) (Y := (f 1)) (W := (f 0)) (f := f) rfl rfl rfl (fun j hj => by first | rfl | (dsimp only; (repeat' split) <;> first | (exfalso; omega) | rfl)) j), KW8, own_perm3 f _ _ _ (fun v => by constructor <;> (rintro (h | h | h) <;> simp [h])) (by simp only [Int32.lt_iff_toInt_lt] at *; omega) (by simp only [Int32.lt_iff_toInt_lt] at *; omega)⟩
          · refine own_of (fun _ kk => XS.icmpYes X5.here hx rfl (pc0 := 43) (pc' := 57) rfl (hb hby d9_43) rfl (flt c43_6).2.1 (by decide) (by decide) kk) ?_
            show own_Fin _ _ _ _ _ _ _ (T5.setTop (mkF m 57 #[.val (.ref x0), .val (.int (0 : Int32)), .val (.int (3 : Int32)), .val (.int (0 : Int32)), .val (.int (2 : Int32)), .val (.int (f 2))] []))
            refine own_of (fun _ kk => XS.aloadN X5.here hx rfl (hb hby d9_57) rfl rfl kk) ?_
            show own_Fin _ _ _ _ _ _ _ (T5.setTop (mkF m 58 #[.val (.ref x0), .val (.int (0 : Int32)), .val (.int (3 : Int32)), .val (.int (0 : Int32)), .val (.int (2 : Int32)), .val (.int (f 2))] [(.ref x0)]))
            refine own_of (fun _ kk => XS.iloadN X5.here hx rfl (hb hby d9_58) rfl kk) ?_
            show own_Fin _ _ _ _ _ _ _ (T5.setTop (mkF m 59 #[.val (.ref x0), .val (.int (0 : Int32)), .val (.int (3 : Int32)), .val (.int (0 : Int32)), .val (.int (2 : Int32)), .val (.int (f 2))] [(.int (0 : Int32)), (.ref x0)]))
            refine own_of (fun _ kk => XS.iconst X5.here hx rfl (hb hby d9_59) kk) ?_
            show own_Fin _ _ _ _ _ _ _ (T5.setTop (mkF m 60 #[.val (.ref x0), .val (.int (0 : Int32)), .val (.int (3 : Int32)), .val (.int (0 : Int32)), .val (.int (2 : Int32)), .val (.int (f 2))] [(.int (1 : Int32)), (.int (0 : Int32)), (.ref x0)]))
            refine own_of (fun _ kk => XS.iadd X5.here hx rfl (hb hby d9_60) rfl kk) ?_
            show own_Fin _ _ _ _ _ _ _ (T5.setTop (mkF m 61 #[.val (.ref x0), .val (.int (0 : Int32)), .val (.int (3 : Int32)), .val (.int (0 : Int32)), .val (.int (2 : Int32)), .val (.int (f 2))] [(.int (1 : Int32)), (.ref x0)]))
            refine own_of (fun _ kk => XS.iload X5.here hx rfl (hb hby d9_61) rfl kk) ?_
            show own_Fin _ _ _ _ _ _ _ (T5.setTop (mkF m 63 #[.val (.ref x0), .val (.int (0 : Int32)), .val (.int (3 : Int32)), .val (.int (0 : Int32)), .val (.int (2 : Int32)), .val (.int (f 2))] [(.int (f 2)), (.int (1 : Int32)), (.ref x0)]))
            refine own_iastore X5 hx hZ e5 A5 N5 ge (i := 1) (by decide) (by omega) (hb hby d9_63) ?_
            intro T9 h9 l9 X9 N9 e9 W9 A9
            replace A9 : own_Arf Z h9 x0 .int nw (fun j => if j = 1 then (.int (f 2)) else (fun j => if j = 2 then (.int (f 0)) else (fun j => if j = 0 then (.int (f 1)) else (fun j => if j = 1 then (.int (f 0)) else (fun j => .int (f j)) j) j) j) j) := A9
            have KW9 := KW5.wr W9 (Or.inl (List.mem_of_getElem? (i := 0) rfl))
            have ZW9 : n0 ≤ h9.size := by rw [Wr.size W9]; exact ZW5
            show own_Fin _ _ _ _ _ _ _ (T9.setTop (mkF m 64 #[.val (.ref x0), .val (.int (0 : Int32)), .val (.int (3 : Int32)), .val (.int (0 : Int32)), .val (.int (2 : Int32)), .val (.int (f 2))] []))
            refine own_of (fun _ kk => XS.goto X9.here hx rfl (pc0 := 64) (pc' := 3) rfl (hb hby d9_64) (by decide) (by decide) kk) ?_
            show own_Fin _ _ _ _ _ _ _ (T9.setTop (mkF m 3 #[.val (.ref x0), .val (.int (0 : Int32)), .val (.int (3 : Int32)), .val (.int (0 : Int32)), .val (.int (2 : Int32)), .val (.int (f 2))] []))
            refine own_of (fun _ kk => XS.iinc X9.here hx rfl (hb hby d9_3) rfl (l' := #[.val (.ref x0), .val (.int (0 : Int32)), .val (.int (3 : Int32)), .val (.int (0 : Int32)), .val (.int (3 : Int32)), .val (.int (f 2))]) rfl kk) ?_
            show own_Fin _ _ _ _ _ _ _ (T9.setTop (mkF m 6 #[.val (.ref x0), .val (.int (0 : Int32)), .val (.int (3 : Int32)), .val (.int (0 : Int32)), .val (.int (3 : Int32)), .val (.int (f 2))] []))
            refine own_of (fun _ kk => XS.iload X9.here hx rfl (hb hby d9_6) rfl kk) ?_
            show own_Fin _ _ _ _ _ _ _ (T9.setTop (mkF m 8 #[.val (.ref x0), .val (.int (0 : Int32)), .val (.int (3 : Int32)), .val (.int (0 : Int32)), .val (.int (3 : Int32)), .val (.int (f 2))] [(.int (3 : Int32))]))
            refine own_of (fun _ kk => XS.iloadN X9.here hx rfl (hb hby d9_8) rfl kk) ?_
            show own_Fin _ _ _ _ _ _ _ (T9.setTop (mkF m 9 #[.val (.ref x0), .val (.int (0 : Int32)), .val (.int (3 : Int32)), .val (.int (0 : Int32)), .val (.int (3 : Int32)), .val (.int (f 2))] [(.int (3 : Int32)), (.int (3 : Int32))]))
            refine own_of (fun _ kk => XS.icmpYes X9.here hx rfl (pc0 := 9) (pc' := 67) rfl (hb hby d9_9) rfl (flt (by decide : ¬ ((3 : Int32) < (3 : Int32)))).2.1 (by decide) (by decide) kk) ?_
            show own_Fin _ _ _ _ _ _ _ (T9.setTop (mkF m 67 #[.val (.ref x0), .val (.int (0 : Int32)), .val (.int (3 : Int32)), .val (.int (0 : Int32)), .val (.int (3 : Int32)), .val (.int (f 2))] []))
            exact own_retV X9 hx hlk e9 hret (hb hby d9_67) (by decide) (by decide) ⟨rfl, N9, ZW9, own_tri (f 1) (f 2) (f 0) f, (A9.congr fun j _ => own_tris (F := (fun j => if j = 1 then (.int (f 2)) else (fun j => if j = 2 then (.int (f 0)) else (fun j => if j = 0 then (.int (f 1)) else (fun j => if j = 1 then (.int (f 0)) else (fun j => .int (f j)) j) j) j) j)) (X := (f 1)) (Y := (f 2)) (W := (f 0)) (f := f) rfl rfl rfl (fun j hj => by first | rfl | (dsimp only; (repeat' split) <;> first | (exfalso; omega) | rfl)) j), KW9, own_perm3 f _ _ _ (fun v => by constructor <;> (rintro (h | h | h) <;> simp [h])) (by simp only [Int32.lt_iff_toInt_lt] at *; omega) (by simp only [Int32.lt_iff_toInt_lt] at *; omega)⟩
        · refine own_of (fun _ kk => XS.icmpYes X2.here hx rfl (pc0 := 43) (pc' := 57) rfl (hb hby d9_43) rfl (flt c43_4).2.1 (by decide) (by decide) kk) ?_
          show own_Fin _ _ _ _ _ _ _ (T2.setTop (mkF m 57 #[.val (.ref x0), .val (.int (0 : Int32)), .val (.int (3 : Int32)), .val (.int (1 : Int32)), .val (.int (2 : Int32)), .val (.int (f 2))] []))
          refine own_of (fun _ kk => XS.aloadN X2.here hx rfl (hb hby d9_57) rfl rfl kk) ?_
          show own_Fin _ _ _ _ _ _ _ (T2.setTop (mkF m 58 #[.val (.ref x0), .val (.int (0 : Int32)), .val (.int (3 : Int32)), .val (.int (1 : Int32)), .val (.int (2 : Int32)), .val (.int (f 2))] [(.ref x0)]))
          refine own_of (fun _ kk => XS.iloadN X2.here hx rfl (hb hby d9_58) rfl kk) ?_
          show own_Fin _ _ _ _ _ _ _ (T2.setTop (mkF m 59 #[.val (.ref x0), .val (.int (0 : Int32)), .val (.int (3 : Int32)), .val (.int (1 : Int32)), .val (.int (2 : Int32)), .val (.int (f 2))] [(.int (1 : Int32)), (.ref x0)]))
          refine own_of (fun _ kk => XS.iconst X2.here hx rfl (hb hby d9_59) kk) ?_
          show own_Fin _ _ _ _ _ _ _ (T2.setTop (mkF m 60 #[.val (.ref x0), .val (.int (0 : Int32)), .val (.int (3 : Int32)), .val (.int (1 : Int32)), .val (.int (2 : Int32)), .val (.int (f 2))] [(.int (1 : Int32)), (.int (1 : Int32)), (.ref x0)]))
          refine own_of (fun _ kk => XS.iadd X2.here hx rfl (hb hby d9_60) rfl kk) ?_
          show own_Fin _ _ _ _ _ _ _ (T2.setTop (mkF m 61 #[.val (.ref x0), .val (.int (0 : Int32)), .val (.int (3 : Int32)), .val (.int (1 : Int32)), .val (.int (2 : Int32)), .val (.int (f 2))] [(.int (2 : Int32)), (.ref x0)]))
          refine own_of (fun _ kk => XS.iload X2.here hx rfl (hb hby d9_61) rfl kk) ?_
          show own_Fin _ _ _ _ _ _ _ (T2.setTop (mkF m 63 #[.val (.ref x0), .val (.int (0 : Int32)), .val (.int (3 : Int32)), .val (.int (1 : Int32)), .val (.int (2 : Int32)), .val (.int (f 2))] [(.int (f 2)), (.int (2 : Int32)), (.ref x0)]))
          refine own_iastore X2 hx hZ e2 A2 N2 ge (i := 2) (by decide) (by omega) (hb hby d9_63) ?_
          intro T10 h10 l10 X10 N10 e10 W10 A10
          replace A10 : own_Arf Z h10 x0 .int nw (fun j => if j = 2 then (.int (f 2)) else (fun j => if j = 0 then (.int (f 1)) else (fun j => if j = 1 then (.int (f 0)) else (fun j => .int (f j)) j) j) j) := A10
          have KW10 := KW2.wr W10 (Or.inl (List.mem_of_getElem? (i := 0) rfl))
          have ZW10 : n0 ≤ h10.size := by rw [Wr.size W10]; exact ZW2
          show own_Fin _ _ _ _ _ _ _ (T10.setTop (mkF m 64 #[.val (.ref x0), .val (.int (0 : Int32)), .val (.int (3 : Int32)), .val (.int (1 : Int32)), .val (.int (2 : Int32)), .val (.int (f 2))] []))
          refine own_of (fun _ kk => XS.goto X10.here hx rfl (pc0 := 64) (pc' := 3) rfl (hb hby d9_64) (by decide) (by decide) kk) ?_
          show own_Fin _ _ _ _ _ _ _ (T10.setTop (mkF m 3 #[.val (.ref x0), .val (.int (0 : Int32)), .val (.int (3 : Int32)), .val (.int (1 : Int32)), .val (.int (2 : Int32)), .val (.int (f 2))] []))
          refine own_of (fun _ kk => XS.iinc X10.here hx rfl (hb hby d9_3) rfl (l' := #[.val (.ref x0), .val (.int (0 : Int32)), .val (.int (3 : Int32)), .val (.int (1 : Int32)), .val (.int (3 : Int32)), .val (.int (f 2))]) rfl kk) ?_
          show own_Fin _ _ _ _ _ _ _ (T10.setTop (mkF m 6 #[.val (.ref x0), .val (.int (0 : Int32)), .val (.int (3 : Int32)), .val (.int (1 : Int32)), .val (.int (3 : Int32)), .val (.int (f 2))] []))
          refine own_of (fun _ kk => XS.iload X10.here hx rfl (hb hby d9_6) rfl kk) ?_
          show own_Fin _ _ _ _ _ _ _ (T10.setTop (mkF m 8 #[.val (.ref x0), .val (.int (0 : Int32)), .val (.int (3 : Int32)), .val (.int (1 : Int32)), .val (.int (3 : Int32)), .val (.int (f 2))] [(.int (3 : Int32))]))
          refine own_of (fun _ kk => XS.iloadN X10.here hx rfl (hb hby d9_8) rfl kk) ?_
          show own_Fin _ _ _ _ _ _ _ (T10.setTop (mkF m 9 #[.val (.ref x0), .val (.int (0 : Int32)), .val (.int (3 : Int32)), .val (.int (1 : Int32)), .val (.int (3 : Int32)), .val (.int (f 2))] [(.int (3 : Int32)), (.int (3 : Int32))]))
          refine own_of (fun _ kk => XS.icmpYes X10.here hx rfl (pc0 := 9) (pc' := 67) rfl (hb hby d9_9) rfl (flt (by decide : ¬ ((3 : Int32) < (3 : Int32)))).2.1 (by decide) (by decide) kk) ?_
          show own_Fin _ _ _ _ _ _ _ (T10.setTop (mkF m 67 #[.val (.ref x0), .val (.int (0 : Int32)), .val (.int (3 : Int32)), .val (.int (1 : Int32)), .val (.int (3 : Int32)), .val (.int (f 2))] []))
          exact own_retV X10 hx hlk e10 hret (hb hby d9_67) (by decide) (by decide) ⟨rfl, N10, ZW10, own_tri (f 1) (f 0) (f 2) f, (A10.congr fun j _ => own_tris (F := (fun j => if j = 2 then (.int (f 2)) else (fun j => if j = 0 then (.int (f 1)) else (fun j => if j = 1 then (.int (f 0)) else (fun j => .int (f j)) j) j) j)) (X := (f 1)) (Y := (f 0)) (W := (f 2)) (f := f) rfl rfl rfl (fun j hj => by first | rfl | (dsimp only; (repeat' split) <;> first | (exfalso; omega) | rfl)) j), KW10, own_perm3 f _ _ _ (fun v => by constructor <;> (rintro (h | h | h) <;> simp [h])) (by simp only [Int32.lt_iff_toInt_lt] at *; omega) (by simp only [Int32.lt_iff_toInt_lt] at *; omega)⟩
      · refine own_of (fun _ kk => XS.icmpYes X2.here hx rfl (pc0 := 27) (pc' := 64) rfl (hb hby d9_27) rfl (flt c27_3).2.1 (by decide) (by decide) kk) ?_
        show own_Fin _ _ _ _ _ _ _ (T2.setTop (mkF m 64 #[.val (.ref x0), .val (.int (0 : Int32)), .val (.int (3 : Int32)), .val (.int (2 : Int32)), .val (.int (2 : Int32)), .val (.int (f 2))] []))
        refine own_of (fun _ kk => XS.goto X2.here hx rfl (pc0 := 64) (pc' := 3) rfl (hb hby d9_64) (by decide) (by decide) kk) ?_
        show own_Fin _ _ _ _ _ _ _ (T2.setTop (mkF m 3 #[.val (.ref x0), .val (.int (0 : Int32)), .val (.int (3 : Int32)), .val (.int (2 : Int32)), .val (.int (2 : Int32)), .val (.int (f 2))] []))
        refine own_of (fun _ kk => XS.iinc X2.here hx rfl (hb hby d9_3) rfl (l' := #[.val (.ref x0), .val (.int (0 : Int32)), .val (.int (3 : Int32)), .val (.int (2 : Int32)), .val (.int (3 : Int32)), .val (.int (f 2))]) rfl kk) ?_
        show own_Fin _ _ _ _ _ _ _ (T2.setTop (mkF m 6 #[.val (.ref x0), .val (.int (0 : Int32)), .val (.int (3 : Int32)), .val (.int (2 : Int32)), .val (.int (3 : Int32)), .val (.int (f 2))] []))
        refine own_of (fun _ kk => XS.iload X2.here hx rfl (hb hby d9_6) rfl kk) ?_
        show own_Fin _ _ _ _ _ _ _ (T2.setTop (mkF m 8 #[.val (.ref x0), .val (.int (0 : Int32)), .val (.int (3 : Int32)), .val (.int (2 : Int32)), .val (.int (3 : Int32)), .val (.int (f 2))] [(.int (3 : Int32))]))
        refine own_of (fun _ kk => XS.iloadN X2.here hx rfl (hb hby d9_8) rfl kk) ?_
        show own_Fin _ _ _ _ _ _ _ (T2.setTop (mkF m 9 #[.val (.ref x0), .val (.int (0 : Int32)), .val (.int (3 : Int32)), .val (.int (2 : Int32)), .val (.int (3 : Int32)), .val (.int (f 2))] [(.int (3 : Int32)), (.int (3 : Int32))]))
        refine own_of (fun _ kk => XS.icmpYes X2.here hx rfl (pc0 := 9) (pc' := 67) rfl (hb hby d9_9) rfl (flt (by decide : ¬ ((3 : Int32) < (3 : Int32)))).2.1 (by decide) (by decide) kk) ?_
        show own_Fin _ _ _ _ _ _ _ (T2.setTop (mkF m 67 #[.val (.ref x0), .val (.int (0 : Int32)), .val (.int (3 : Int32)), .val (.int (2 : Int32)), .val (.int (3 : Int32)), .val (.int (f 2))] []))
        exact own_retV X2 hx hlk e2 hret (hb hby d9_67) (by decide) (by decide) ⟨rfl, N2, ZW2, own_tri (f 1) (f 0) (f 2) f, (A2.congr fun j _ => own_tris (F := (fun j => if j = 0 then (.int (f 1)) else (fun j => if j = 1 then (.int (f 0)) else (fun j => .int (f j)) j) j)) (X := (f 1)) (Y := (f 0)) (W := (f 2)) (f := f) rfl rfl rfl (fun j hj => by first | rfl | (dsimp only; (repeat' split) <;> first | (exfalso; omega) | rfl)) j), KW2, own_perm3 f _ _ _ (fun v => by constructor <;> (rintro (h | h | h) <;> simp [h])) (by simp only [Int32.lt_iff_toInt_lt] at *; omega) (by simp only [Int32.lt_iff_toInt_lt] at *; omega)⟩
    · refine own_of (fun _ kk => XS.icmpYes X0.here hx rfl (pc0 := 43) (pc' := 57) rfl (hb hby d9_43) rfl (flt c43).2.1 (by decide) (by decide) kk) ?_
      show own_Fin _ _ _ _ _ _ _ (T0.setTop (mkF m 57 #[.val (.ref x0), .val (.int (0 : Int32)), .val (.int (3 : Int32)), .val (.int (0 : Int32)), .val (.int (1 : Int32)), .val (.int (f 1))] []))
      refine own_of (fun _ kk => XS.aloadN X0.here hx rfl (hb hby d9_57) rfl rfl kk) ?_
      show own_Fin _ _ _ _ _ _ _ (T0.setTop (mkF m 58 #[.val (.ref x0), .val (.int (0 : Int32)), .val (.int (3 : Int32)), .val (.int (0 : Int32)), .val (.int (1 : Int32)), .val (.int (f 1))] [(.ref x0)]))
      refine own_of (fun _ kk => XS.iloadN X0.here hx rfl (hb hby d9_58) rfl kk) ?_
      show own_Fin _ _ _ _ _ _ _ (T0.setTop (mkF m 59 #[.val (.ref x0), .val (.int (0 : Int32)), .val (.int (3 : Int32)), .val (.int (0 : Int32)), .val (.int (1 : Int32)), .val (.int (f 1))] [(.int (0 : Int32)), (.ref x0)]))
      refine own_of (fun _ kk => XS.iconst X0.here hx rfl (hb hby d9_59) kk) ?_
      show own_Fin _ _ _ _ _ _ _ (T0.setTop (mkF m 60 #[.val (.ref x0), .val (.int (0 : Int32)), .val (.int (3 : Int32)), .val (.int (0 : Int32)), .val (.int (1 : Int32)), .val (.int (f 1))] [(.int (1 : Int32)), (.int (0 : Int32)), (.ref x0)]))
      refine own_of (fun _ kk => XS.iadd X0.here hx rfl (hb hby d9_60) rfl kk) ?_
      show own_Fin _ _ _ _ _ _ _ (T0.setTop (mkF m 61 #[.val (.ref x0), .val (.int (0 : Int32)), .val (.int (3 : Int32)), .val (.int (0 : Int32)), .val (.int (1 : Int32)), .val (.int (f 1))] [(.int (1 : Int32)), (.ref x0)]))
      refine own_of (fun _ kk => XS.iload X0.here hx rfl (hb hby d9_61) rfl kk) ?_
      show own_Fin _ _ _ _ _ _ _ (T0.setTop (mkF m 63 #[.val (.ref x0), .val (.int (0 : Int32)), .val (.int (3 : Int32)), .val (.int (0 : Int32)), .val (.int (1 : Int32)), .val (.int (f 1))] [(.int (f 1)), (.int (1 : Int32)), (.ref x0)]))
      refine own_iastore X0 hx hZ e0 A N0 ge (i := 1) (by decide) (by omega) (hb hby d9_63) ?_
      intro T11 h11 l11 X11 N11 e11 W11 A11
      replace A11 : own_Arf Z h11 x0 .int nw (fun j => if j = 1 then (.int (f 1)) else (fun j => .int (f j)) j) := A11
      have KW11 := K.wr W11 (Or.inl (List.mem_of_getElem? (i := 0) rfl))
      have ZW11 : n0 ≤ h11.size := by rw [Wr.size W11]; exact Z0
      show own_Fin _ _ _ _ _ _ _ (T11.setTop (mkF m 64 #[.val (.ref x0), .val (.int (0 : Int32)), .val (.int (3 : Int32)), .val (.int (0 : Int32)), .val (.int (1 : Int32)), .val (.int (f 1))] []))
      refine own_of (fun _ kk => XS.goto X11.here hx rfl (pc0 := 64) (pc' := 3) rfl (hb hby d9_64) (by decide) (by decide) kk) ?_
      show own_Fin _ _ _ _ _ _ _ (T11.setTop (mkF m 3 #[.val (.ref x0), .val (.int (0 : Int32)), .val (.int (3 : Int32)), .val (.int (0 : Int32)), .val (.int (1 : Int32)), .val (.int (f 1))] []))
      refine own_of (fun _ kk => XS.iinc X11.here hx rfl (hb hby d9_3) rfl (l' := #[.val (.ref x0), .val (.int (0 : Int32)), .val (.int (3 : Int32)), .val (.int (0 : Int32)), .val (.int (2 : Int32)), .val (.int (f 1))]) rfl kk) ?_
      show own_Fin _ _ _ _ _ _ _ (T11.setTop (mkF m 6 #[.val (.ref x0), .val (.int (0 : Int32)), .val (.int (3 : Int32)), .val (.int (0 : Int32)), .val (.int (2 : Int32)), .val (.int (f 1))] []))
      refine own_of (fun _ kk => XS.iload X11.here hx rfl (hb hby d9_6) rfl kk) ?_
      show own_Fin _ _ _ _ _ _ _ (T11.setTop (mkF m 8 #[.val (.ref x0), .val (.int (0 : Int32)), .val (.int (3 : Int32)), .val (.int (0 : Int32)), .val (.int (2 : Int32)), .val (.int (f 1))] [(.int (2 : Int32))]))
      refine own_of (fun _ kk => XS.iloadN X11.here hx rfl (hb hby d9_8) rfl kk) ?_
      show own_Fin _ _ _ _ _ _ _ (T11.setTop (mkF m 9 #[.val (.ref x0), .val (.int (0 : Int32)), .val (.int (3 : Int32)), .val (.int (0 : Int32)), .val (.int (2 : Int32)), .val (.int (f 1))] [(.int (3 : Int32)), (.int (2 : Int32))]))
      refine own_of (fun _ kk => XS.icmpNo X11.here hx rfl (hb hby d9_9) rfl (tlt (by decide : ((2 : Int32) < (3 : Int32)))).2.1 kk) ?_
      show own_Fin _ _ _ _ _ _ _ (T11.setTop (mkF m 12 #[.val (.ref x0), .val (.int (0 : Int32)), .val (.int (3 : Int32)), .val (.int (0 : Int32)), .val (.int (2 : Int32)), .val (.int (f 1))] []))
      refine own_of (fun _ kk => XS.aloadN X11.here hx rfl (hb hby d9_12) rfl rfl kk) ?_
      show own_Fin _ _ _ _ _ _ _ (T11.setTop (mkF m 13 #[.val (.ref x0), .val (.int (0 : Int32)), .val (.int (3 : Int32)), .val (.int (0 : Int32)), .val (.int (2 : Int32)), .val (.int (f 1))] [(.ref x0)]))
      refine own_of (fun _ kk => XS.iload X11.here hx rfl (hb hby d9_13) rfl kk) ?_
      show own_Fin _ _ _ _ _ _ _ (T11.setTop (mkF m 15 #[.val (.ref x0), .val (.int (0 : Int32)), .val (.int (3 : Int32)), .val (.int (0 : Int32)), .val (.int (2 : Int32)), .val (.int (f 1))] [(.int (2 : Int32)), (.ref x0)]))
      refine own_of (fun _ kk => XS.dup X11.here hx rfl (hb hby d9_15) rfl rfl kk) ?_
      show own_Fin _ _ _ _ _ _ _ (T11.setTop (mkF m 16 #[.val (.ref x0), .val (.int (0 : Int32)), .val (.int (3 : Int32)), .val (.int (0 : Int32)), .val (.int (2 : Int32)), .val (.int (f 1))] [(.int (2 : Int32)), (.int (2 : Int32)), (.ref x0)]))
      refine own_of (fun _ kk => XS.istoreN X11.here hx rfl (hb hby d9_16) rfl (l' := #[.val (.ref x0), .val (.int (0 : Int32)), .val (.int (3 : Int32)), .val (.int (2 : Int32)), .val (.int (2 : Int32)), .val (.int (f 1))]) rfl kk) ?_
      show own_Fin _ _ _ _ _ _ _ (T11.setTop (mkF m 17 #[.val (.ref x0), .val (.int (0 : Int32)), .val (.int (3 : Int32)), .val (.int (2 : Int32)), .val (.int (2 : Int32)), .val (.int (f 1))] [(.int (2 : Int32)), (.ref x0)]))
      refine own_iaload X11 hx hZ e11 A11 (i := 2) (by decide) (by omega) (v := (.int (f 2))) rfl (hb hby d9_17) ?_
      show own_Fin _ _ _ _ _ _ _ (T11.setTop (mkF m 18 #[.val (.ref x0), .val (.int (0 : Int32)), .val (.int (3 : Int32)), .val (.int (2 : Int32)), .val (.int (2 : Int32)), .val (.int (f 1))] [(.int (f 2))]))
      refine own_of (fun _ kk => XS.istore X11.here hx rfl (hb hby d9_18) rfl (l' := #[.val (.ref x0), .val (.int (0 : Int32)), .val (.int (3 : Int32)), .val (.int (2 : Int32)), .val (.int (2 : Int32)), .val (.int (f 2))]) rfl kk) ?_
      show own_Fin _ _ _ _ _ _ _ (T11.setTop (mkF m 20 #[.val (.ref x0), .val (.int (0 : Int32)), .val (.int (3 : Int32)), .val (.int (2 : Int32)), .val (.int (2 : Int32)), .val (.int (f 2))] []))
      refine own_of (fun _ kk => XS.iload X11.here hx rfl (hb hby d9_20) rfl kk) ?_
      show own_Fin _ _ _ _ _ _ _ (T11.setTop (mkF m 22 #[.val (.ref x0), .val (.int (0 : Int32)), .val (.int (3 : Int32)), .val (.int (2 : Int32)), .val (.int (2 : Int32)), .val (.int (f 2))] [(.int (f 2))]))
      refine own_of (fun _ kk => XS.aloadN X11.here hx rfl (hb hby d9_22) rfl rfl kk) ?_
      show own_Fin _ _ _ _ _ _ _ (T11.setTop (mkF m 23 #[.val (.ref x0), .val (.int (0 : Int32)), .val (.int (3 : Int32)), .val (.int (2 : Int32)), .val (.int (2 : Int32)), .val (.int (f 2))] [(.ref x0), (.int (f 2))]))
      refine own_of (fun _ kk => XS.iloadN X11.here hx rfl (hb hby d9_23) rfl kk) ?_
      show own_Fin _ _ _ _ _ _ _ (T11.setTop (mkF m 24 #[.val (.ref x0), .val (.int (0 : Int32)), .val (.int (3 : Int32)), .val (.int (2 : Int32)), .val (.int (2 : Int32)), .val (.int (f 2))] [(.int (2 : Int32)), (.ref x0), (.int (f 2))]))
      refine own_of (fun _ kk => XS.iconst X11.here hx rfl (hb hby d9_24) kk) ?_
      show own_Fin _ _ _ _ _ _ _ (T11.setTop (mkF m 25 #[.val (.ref x0), .val (.int (0 : Int32)), .val (.int (3 : Int32)), .val (.int (2 : Int32)), .val (.int (2 : Int32)), .val (.int (f 2))] [(.int (1 : Int32)), (.int (2 : Int32)), (.ref x0), (.int (f 2))]))
      refine own_of (fun _ kk => XS.isub X11.here hx rfl (hb hby d9_25) rfl kk) ?_
      show own_Fin _ _ _ _ _ _ _ (T11.setTop (mkF m 26 #[.val (.ref x0), .val (.int (0 : Int32)), .val (.int (3 : Int32)), .val (.int (2 : Int32)), .val (.int (2 : Int32)), .val (.int (f 2))] [(.int (1 : Int32)), (.ref x0), (.int (f 2))]))
      refine own_iaload X11 hx hZ e11 A11 (i := 1) (by decide) (by omega) (v := (.int (f 1))) rfl (hb hby d9_26) ?_
      show own_Fin _ _ _ _ _ _ _ (T11.setTop (mkF m 27 #[.val (.ref x0), .val (.int (0 : Int32)), .val (.int (3 : Int32)), .val (.int (2 : Int32)), .val (.int (2 : Int32)), .val (.int (f 2))] [(.int (f 1)), (.int (f 2))]))
      by_cases c27_12 : (f 2) < (f 1)
      · refine own_of (fun _ kk => XS.icmpNo X11.here hx rfl (hb hby d9_27) rfl (tlt c27_12).2.1 kk) ?_
        show own_Fin _ _ _ _ _ _ _ (T11.setTop (mkF m 30 #[.val (.ref x0), .val (.int (0 : Int32)), .val (.int (3 : Int32)), .val (.int (2 : Int32)), .val (.int (2 : Int32)), .val (.int (f 2))] []))
        refine own_of (fun _ kk => XS.iinc X11.here hx rfl (hb hby d9_30) rfl (l' := #[.val (.ref x0), .val (.int (0 : Int32)), .val (.int (3 : Int32)), .val (.int (1 : Int32)), .val (.int (2 : Int32)), .val (.int (f 2))]) rfl kk) ?_
        show own_Fin _ _ _ _ _ _ _ (T11.setTop (mkF m 33 #[.val (.ref x0), .val (.int (0 : Int32)), .val (.int (3 : Int32)), .val (.int (1 : Int32)), .val (.int (2 : Int32)), .val (.int (f 2))] []))
        refine own_of (fun _ kk => XS.iloadN X11.here hx rfl (hb hby d9_33) rfl kk) ?_
        show own_Fin _ _ _ _ _ _ _ (T11.setTop (mkF m 34 #[.val (.ref x0), .val (.int (0 : Int32)), .val (.int (3 : Int32)), .val (.int (1 : Int32)), .val (.int (2 : Int32)), .val (.int (f 2))] [(.int (1 : Int32))]))
        refine own_of (fun _ kk => XS.iloadN X11.here hx rfl (hb hby d9_34) rfl kk) ?_
        show own_Fin _ _ _ _ _ _ _ (T11.setTop (mkF m 35 #[.val (.ref x0), .val (.int (0 : Int32)), .val (.int (3 : Int32)), .val (.int (1 : Int32)), .val (.int (2 : Int32)), .val (.int (f 2))] [(.int (0 : Int32)), (.int (1 : Int32))]))
        refine own_of (fun _ kk => XS.icmpNo X11.here hx rfl (hb hby d9_35) rfl (flt (by decide : ¬ ((1 : Int32) < (0 : Int32)))).1 kk) ?_
        show own_Fin _ _ _ _ _ _ _ (T11.setTop (mkF m 38 #[.val (.ref x0), .val (.int (0 : Int32)), .val (.int (3 : Int32)), .val (.int (1 : Int32)), .val (.int (2 : Int32)), .val (.int (f 2))] []))
        refine own_of (fun _ kk => XS.iload X11.here hx rfl (hb hby d9_38) rfl kk) ?_
        show own_Fin _ _ _ _ _ _ _ (T11.setTop (mkF m 40 #[.val (.ref x0), .val (.int (0 : Int32)), .val (.int (3 : Int32)), .val (.int (1 : Int32)), .val (.int (2 : Int32)), .val (.int (f 2))] [(.int (f 2))]))
        refine own_of (fun _ kk => XS.aloadN X11.here hx rfl (hb hby d9_40) rfl rfl kk) ?_
        show own_Fin _ _ _ _ _ _ _ (T11.setTop (mkF m 41 #[.val (.ref x0), .val (.int (0 : Int32)), .val (.int (3 : Int32)), .val (.int (1 : Int32)), .val (.int (2 : Int32)), .val (.int (f 2))] [(.ref x0), (.int (f 2))]))
        refine own_of (fun _ kk => XS.iloadN X11.here hx rfl (hb hby d9_41) rfl kk) ?_
        show own_Fin _ _ _ _ _ _ _ (T11.setTop (mkF m 42 #[.val (.ref x0), .val (.int (0 : Int32)), .val (.int (3 : Int32)), .val (.int (1 : Int32)), .val (.int (2 : Int32)), .val (.int (f 2))] [(.int (1 : Int32)), (.ref x0), (.int (f 2))]))
        refine own_iaload X11 hx hZ e11 A11 (i := 1) (by decide) (by omega) (v := (.int (f 1))) rfl (hb hby d9_42) ?_
        show own_Fin _ _ _ _ _ _ _ (T11.setTop (mkF m 43 #[.val (.ref x0), .val (.int (0 : Int32)), .val (.int (3 : Int32)), .val (.int (1 : Int32)), .val (.int (2 : Int32)), .val (.int (f 2))] [(.int (f 1)), (.int (f 2))]))
        by_cases c43_13 : (f 2) < (f 1)
        · refine own_of (fun _ kk => XS.icmpNo X11.here hx rfl (hb hby d9_43) rfl (tlt c43_13).2.1 kk) ?_
          show own_Fin _ _ _ _ _ _ _ (T11.setTop (mkF m 46 #[.val (.ref x0), .val (.int (0 : Int32)), .val (.int (3 : Int32)), .val (.int (1 : Int32)), .val (.int (2 : Int32)), .val (.int (f 2))] []))
          refine own_of (fun _ kk => XS.aloadN X11.here hx rfl (hb hby d9_46) rfl rfl kk) ?_
          show own_Fin _ _ _ _ _ _ _ (T11.setTop (mkF m 47 #[.val (.ref x0), .val (.int (0 : Int32)), .val (.int (3 : Int32)), .val (.int (1 : Int32)), .val (.int (2 : Int32)), .val (.int (f 2))] [(.ref x0)]))
          refine own_of (fun _ kk => XS.iloadN X11.here hx rfl (hb hby d9_47) rfl kk) ?_
          show own_Fin _ _ _ _ _ _ _ (T11.setTop (mkF m 48 #[.val (.ref x0), .val (.int (0 : Int32)), .val (.int (3 : Int32)), .val (.int (1 : Int32)), .val (.int (2 : Int32)), .val (.int (f 2))] [(.int (1 : Int32)), (.ref x0)]))
          refine own_of (fun _ kk => XS.iconst X11.here hx rfl (hb hby d9_48) kk) ?_
          show own_Fin _ _ _ _ _ _ _ (T11.setTop (mkF m 49 #[.val (.ref x0), .val (.int (0 : Int32)), .val (.int (3 : Int32)), .val (.int (1 : Int32)), .val (.int (2 : Int32)), .val (.int (f 2))] [(.int (1 : Int32)), (.int (1 : Int32)), (.ref x0)]))
          refine own_of (fun _ kk => XS.iadd X11.here hx rfl (hb hby d9_49) rfl kk) ?_
          show own_Fin _ _ _ _ _ _ _ (T11.setTop (mkF m 50 #[.val (.ref x0), .val (.int (0 : Int32)), .val (.int (3 : Int32)), .val (.int (1 : Int32)), .val (.int (2 : Int32)), .val (.int (f 2))] [(.int (2 : Int32)), (.ref x0)]))
          refine own_of (fun _ kk => XS.aloadN X11.here hx rfl (hb hby d9_50) rfl rfl kk) ?_
          show own_Fin _ _ _ _ _ _ _ (T11.setTop (mkF m 51 #[.val (.ref x0), .val (.int (0 : Int32)), .val (.int (3 : Int32)), .val (.int (1 : Int32)), .val (.int (2 : Int32)), .val (.int (f 2))] [(.ref x0), (.int (2 : Int32)), (.ref x0)]))
          refine own_of (fun _ kk => XS.iloadN X11.here hx rfl (hb hby d9_51) rfl kk) ?_
          show own_Fin _ _ _ _ _ _ _ (T11.setTop (mkF m 52 #[.val (.ref x0), .val (.int (0 : Int32)), .val (.int (3 : Int32)), .val (.int (1 : Int32)), .val (.int (2 : Int32)), .val (.int (f 2))] [(.int (1 : Int32)), (.ref x0), (.int (2 : Int32)), (.ref x0)]))
          refine own_iaload X11 hx hZ e11 A11 (i := 1) (by decide) (by omega) (v := (.int (f 1))) rfl (hb hby d9_52) ?_
          show own_Fin _ _ _ _ _ _ _ (T11.setTop (mkF m 53 #[.val (.ref x0), .val (.int (0 : Int32)), .val (.int (3 : Int32)), .val (.int (1 : Int32)), .val (.int (2 : Int32)), .val (.int (f 2))] [(.int (f 1)), (.int (2 : Int32)), (.ref x0)]))
          refine own_iastore X11 hx hZ e11 A11 N11 ge (i := 2) (by decide) (by omega) (hb hby d9_53) ?_
          intro T14 h14 l14 X14 N14 e14 W14 A14
          replace A14 : own_Arf Z h14 x0 .int nw (fun j => if j = 2 then (.int (f 1)) else (fun j => if j = 1 then (.int (f 1)) else (fun j => .int (f j)) j) j) := A14
          have KW14 := KW11.wr W14 (Or.inl (List.mem_of_getElem? (i := 0) rfl))
          have ZW14 : n0 ≤ h14.size := by rw [Wr.size W14]; exact ZW11
          show own_Fin _ _ _ _ _ _ _ (T14.setTop (mkF m 54 #[.val (.ref x0), .val (.int (0 : Int32)), .val (.int (3 : Int32)), .val (.int (1 : Int32)), .val (.int (2 : Int32)), .val (.int (f 2))] []))
          refine own_of (fun _ kk => XS.goto X14.here hx rfl (pc0 := 54) (pc' := 30) rfl (hb hby d9_54) (by decide) (by decide) kk) ?_
          show own_Fin _ _ _ _ _ _ _ (T14.setTop (mkF m 30 #[.val (.ref x0), .val (.int (0 : Int32)), .val (.int (3 : Int32)), .val (.int (1 : Int32)), .val (.int (2 : Int32)), .val (.int (f 2))] []))
          refine own_of (fun _ kk => XS.iinc X14.here hx rfl (hb hby d9_30) rfl (l' := #[.val (.ref x0), .val (.int (0 : Int32)), .val (.int (3 : Int32)), .val (.int (0 : Int32)), .val (.int (2 : Int32)), .val (.int (f 2))]) rfl kk) ?_
          show own_Fin _ _ _ _ _ _ _ (T14.setTop (mkF m 33 #[.val (.ref x0), .val (.int (0 : Int32)), .val (.int (3 : Int32)), .val (.int (0 : Int32)), .val (.int (2 : Int32)), .val (.int (f 2))] []))
          refine own_of (fun _ kk => XS.iloadN X14.here hx rfl (hb hby d9_33) rfl kk) ?_
          show own_Fin _ _ _ _ _ _ _ (T14.setTop (mkF m 34 #[.val (.ref x0), .val (.int (0 : Int32)), .val (.int (3 : Int32)), .val (.int (0 : Int32)), .val (.int (2 : Int32)), .val (.int (f 2))] [(.int (0 : Int32))]))
          refine own_of (fun _ kk => XS.iloadN X14.here hx rfl (hb hby d9_34) rfl kk) ?_
          show own_Fin _ _ _ _ _ _ _ (T14.setTop (mkF m 35 #[.val (.ref x0), .val (.int (0 : Int32)), .val (.int (3 : Int32)), .val (.int (0 : Int32)), .val (.int (2 : Int32)), .val (.int (f 2))] [(.int (0 : Int32)), (.int (0 : Int32))]))
          refine own_of (fun _ kk => XS.icmpNo X14.here hx rfl (hb hby d9_35) rfl (flt (by decide : ¬ ((0 : Int32) < (0 : Int32)))).1 kk) ?_
          show own_Fin _ _ _ _ _ _ _ (T14.setTop (mkF m 38 #[.val (.ref x0), .val (.int (0 : Int32)), .val (.int (3 : Int32)), .val (.int (0 : Int32)), .val (.int (2 : Int32)), .val (.int (f 2))] []))
          refine own_of (fun _ kk => XS.iload X14.here hx rfl (hb hby d9_38) rfl kk) ?_
          show own_Fin _ _ _ _ _ _ _ (T14.setTop (mkF m 40 #[.val (.ref x0), .val (.int (0 : Int32)), .val (.int (3 : Int32)), .val (.int (0 : Int32)), .val (.int (2 : Int32)), .val (.int (f 2))] [(.int (f 2))]))
          refine own_of (fun _ kk => XS.aloadN X14.here hx rfl (hb hby d9_40) rfl rfl kk) ?_
          show own_Fin _ _ _ _ _ _ _ (T14.setTop (mkF m 41 #[.val (.ref x0), .val (.int (0 : Int32)), .val (.int (3 : Int32)), .val (.int (0 : Int32)), .val (.int (2 : Int32)), .val (.int (f 2))] [(.ref x0), (.int (f 2))]))
          refine own_of (fun _ kk => XS.iloadN X14.here hx rfl (hb hby d9_41) rfl kk) ?_
          show own_Fin _ _ _ _ _ _ _ (T14.setTop (mkF m 42 #[.val (.ref x0), .val (.int (0 : Int32)), .val (.int (3 : Int32)), .val (.int (0 : Int32)), .val (.int (2 : Int32)), .val (.int (f 2))] [(.int (0 : Int32)), (.ref x0), (.int (f 2))]))
          refine own_iaload X14 hx hZ e14 A14 (i := 0) (by decide) (by omega) (v := (.int (f 0))) rfl (hb hby d9_42) ?_
          show own_Fin _ _ _ _ _ _ _ (T14.setTop (mkF m 43 #[.val (.ref x0), .val (.int (0 : Int32)), .val (.int (3 : Int32)), .val (.int (0 : Int32)), .val (.int (2 : Int32)), .val (.int (f 2))] [(.int (f 0)), (.int (f 2))]))
          by_cases c43_15 : (f 2) < (f 0)
          · refine own_of (fun _ kk => XS.icmpNo X14.here hx rfl (hb hby d9_43) rfl (tlt c43_15).2.1 kk) ?_
            show own_Fin _ _ _ _ _ _ _ (T14.setTop (mkF m 46 #[.val (.ref x0), .val (.int (0 : Int32)), .val (.int (3 : Int32)), .val (.int (0 : Int32)), .val (.int (2 : Int32)), .val (.int (f 2))] []))
            refine own_of (fun _ kk => XS.aloadN X14.here hx rfl (hb hby d9_46) rfl rfl kk) ?_
            show own_Fin _ _ _ _ _ _ _ (T14.setTop (mkF m 47 #[.val (.ref x0), .val (.int (0 : Int32)), .val (.int (3 : Int32)), .val (.int (0 : Int32)), .val (.int (2 : Int32)), .val (.int (f 2))] [(.ref x0)]))
            refine own_of (fun _ kk => XS.iloadN X14.here hx rfl (hb hby d9_47) rfl kk) ?_
            show own_Fin _ _ _ _ _ _ _ (T14.setTop (mkF m 48 #[.val (.ref x0), .val (.int (0 : Int32)), .val (.int (3 : Int32)), .val (.int (0 : Int32)), .val (.int (2 : Int32)), .val (.int (f 2))] [(.int (0 : Int32)), (.ref x0)]))
            refine own_of (fun _ kk => XS.iconst X14.here hx rfl (hb hby d9_48) kk) ?_
            show own_Fin _ _ _ _ _ _ _ (T14.setTop (mkF m 49 #[.val (.ref x0), .val (.int (0 : Int32)), .val (.int (3 : Int32)), .val (.int (0 : Int32)), .val (.int (2 : Int32)), .val (.int (f 2))] [(.int (1 : Int32)), (.int (0 : Int32)), (.ref x0)]))
            refine own_of (fun _ kk => XS.iadd X14.here hx rfl (hb hby d9_49) rfl kk) ?_
            show own_Fin _ _ _ _ _ _ _ (T14.setTop (mkF m 50 #[.val (.ref x0), .val (.int (0 : Int32)), .val (.int (3 : Int32)), .val (.int (0 : Int32)), .val (.int (2 : Int32)), .val (.int (f 2))] [(.int (1 : Int32)), (.ref x0)]))
            refine own_of (fun _ kk => XS.aloadN X14.here hx rfl (hb hby d9_50) rfl rfl kk) ?_
            show own_Fin _ _ _ _ _ _ _ (T14.setTop (mkF m 51 #[.val (.ref x0), .val (.int (0 : Int32)), .val (.int (3 : Int32)), .val (.int (0 : Int32)), .val (.int (2 : Int32)), .val (.int (f 2))] [(.ref x0), (.int (1 : Int32)), (.ref x0)]))
            refine own_of (fun _ kk => XS.iloadN X14.here hx rfl (hb hby d9_51) rfl kk) ?_
            show own_Fin _ _ _ _ _ _ _ (T14.setTop (mkF m 52 #[.val (.ref x0), .val (.int (0 : Int32)), .val (.int (3 : Int32)), .val (.int (0 : Int32)), .val (.int (2 : Int32)), .val (.int (f 2))] [(.int (0 : Int32)), (.ref x0), (.int (1 : Int32)), (.ref x0)]))
            refine own_iaload X14 hx hZ e14 A14 (i := 0) (by decide) (by omega) (v := (.int (f 0))) rfl (hb hby d9_52) ?_
            show own_Fin _ _ _ _ _ _ _ (T14.setTop (mkF m 53 #[.val (.ref x0), .val (.int (0 : Int32)), .val (.int (3 : Int32)), .val (.int (0 : Int32)), .val (.int (2 : Int32)), .val (.int (f 2))] [(.int (f 0)), (.int (1 : Int32)), (.ref x0)]))
            refine own_iastore X14 hx hZ e14 A14 N14 ge (i := 1) (by decide) (by omega) (hb hby d9_53) ?_
            intro T16 h16 l16 X16 N16 e16 W16 A16
            replace A16 : own_Arf Z h16 x0 .int nw (fun j => if j = 1 then (.int (f 0)) else (fun j => if j = 2 then (.int (f 1)) else (fun j => if j = 1 then (.int (f 1)) else (fun j => .int (f j)) j) j) j) := A16
            have KW16 := KW14.wr W16 (Or.inl (List.mem_of_getElem? (i := 0) rfl))
            have ZW16 : n0 ≤ h16.size := by rw [Wr.size W16]; exact ZW14
            show own_Fin _ _ _ _ _ _ _ (T16.setTop (mkF m 54 #[.val (.ref x0), .val (.int (0 : Int32)), .val (.int (3 : Int32)), .val (.int (0 : Int32)), .val (.int (2 : Int32)), .val (.int (f 2))] []))
            refine own_of (fun _ kk => XS.goto X16.here hx rfl (pc0 := 54) (pc' := 30) rfl (hb hby d9_54) (by decide) (by decide) kk) ?_
            show own_Fin _ _ _ _ _ _ _ (T16.setTop (mkF m 30 #[.val (.ref x0), .val (.int (0 : Int32)), .val (.int (3 : Int32)), .val (.int (0 : Int32)), .val (.int (2 : Int32)), .val (.int (f 2))] []))
            refine own_of (fun _ kk => XS.iinc X16.here hx rfl (hb hby d9_30) rfl (l' := #[.val (.ref x0), .val (.int (0 : Int32)), .val (.int (3 : Int32)), .val (.int (-1 : Int32)), .val (.int (2 : Int32)), .val (.int (f 2))]) rfl kk) ?_
            show own_Fin _ _ _ _ _ _ _ (T16.setTop (mkF m 33 #[.val (.ref x0), .val (.int (0 : Int32)), .val (.int (3 : Int32)), .val (.int (-1 : Int32)), .val (.int (2 : Int32)), .val (.int (f 2))] []))
            refine own_of (fun _ kk => XS.iloadN X16.here hx rfl (hb hby d9_33) rfl kk) ?_
            show own_Fin _ _ _ _ _ _ _ (T16.setTop (mkF m 34 #[.val (.ref x0), .val (.int (0 : Int32)), .val (.int (3 : Int32)), .val (.int (-1 : Int32)), .val (.int (2 : Int32)), .val (.int (f 2))] [(.int (-1 : Int32))]))
            refine own_of (fun _ kk => XS.iloadN X16.here hx rfl (hb hby d9_34) rfl kk) ?_
            show own_Fin _ _ _ _ _ _ _ (T16.setTop (mkF m 35 #[.val (.ref x0), .val (.int (0 : Int32)), .val (.int (3 : Int32)), .val (.int (-1 : Int32)), .val (.int (2 : Int32)), .val (.int (f 2))] [(.int (0 : Int32)), (.int (-1 : Int32))]))
            refine own_of (fun _ kk => XS.icmpYes X16.here hx rfl (pc0 := 35) (pc' := 57) rfl (hb hby d9_35) rfl (tlt (by decide : ((-1 : Int32) < (0 : Int32)))).1 (by decide) (by decide) kk) ?_
            show own_Fin _ _ _ _ _ _ _ (T16.setTop (mkF m 57 #[.val (.ref x0), .val (.int (0 : Int32)), .val (.int (3 : Int32)), .val (.int (-1 : Int32)), .val (.int (2 : Int32)), .val (.int (f 2))] []))
            refine own_of (fun _ kk => XS.aloadN X16.here hx rfl (hb hby d9_57) rfl rfl kk) ?_
            show own_Fin _ _ _ _ _ _ _ (T16.setTop (mkF m 58 #[.val (.ref x0), .val (.int (0 : Int32)), .val (.int (3 : Int32)), .val (.int (-1 : Int32)), .val (.int (2 : Int32)), .val (.int (f 2))] [(.ref x0)]))
            refine own_of (fun _ kk => XS.iloadN X16.here hx rfl (hb hby d9_58) rfl kk) ?_
            show own_Fin _ _ _ _ _ _ _ (T16.setTop (mkF m 59 #[.val (.ref x0), .val (.int (0 : Int32)), .val (.int (3 : Int32)), .val (.int (-1 : Int32)), .val (.int (2 : Int32)), .val (.int (f 2))] [(.int (-1 : Int32)), (.ref x0)]))
            refine own_of (fun _ kk => XS.iconst X16.here hx rfl (hb hby d9_59) kk) ?_
            show own_Fin _ _ _ _ _ _ _ (T16.setTop (mkF m 60 #[.val (.ref x0), .val (.int (0 : Int32)), .val (.int (3 : Int32)), .val (.int (-1 : Int32)), .val (.int (2 : Int32)), .val (.int (f 2))] [(.int (1 : Int32)), (.int (-1 : Int32)), (.ref x0)]))
            refine own_of (fun _ kk => XS.iadd X16.here hx rfl (hb hby d9_60) rfl kk) ?_
            show own_Fin _ _ _ _ _ _ _ (T16.setTop (mkF m 61 #[.val (.ref x0), .val (.int (0 : Int32)), .val (.int (3 : Int32)), .val (.int (-1 : Int32)), .val (.int (2 : Int32)), .val (.int (f 2))] [(.int (0 : Int32)), (.ref x0)]))
            refine own_of (fun _ kk => XS.iload X16.here hx rfl (hb hby d9_61) rfl kk) ?_
            show own_Fin _ _ _ _ _ _ _ (T16.setTop (mkF m 63 #[.val (.ref x0), .val (.int (0 : Int32)), .val (.int (3 : Int32)), .val (.int (-1 : Int32)), .val (.int (2 : Int32)), .val (.int (f 2))] [(.int (f 2)), (.int (0 : Int32)), (.ref x0)]))
            refine own_iastore X16 hx hZ e16 A16 N16 ge (i := 0) (by decide) (by omega) (hb hby d9_63) ?_
            intro T17 h17 l17 X17 N17 e17 W17 A17
            replace A17 : own_Arf Z h17 x0 .int nw (fun j => if j = 0 then (.int (f 2)) else (fun j => if j = 1 then (.int (f 0)) else (fun j => if j = 2 then (.int (f 1)) else (fun j => if j = 1 then (.int (f 1)) else (fun j => .int (f j)) j) j) j) j) := A17
            have KW17 := KW16.wr W17 (Or.inl (List.mem_of_getElem? (i := 0) rfl))
            have ZW17 : n0 ≤ h17.size := by rw [Wr.size W17]; exact ZW16
            show own_Fin _ _ _ _ _ _ _ (T17.setTop (mkF m 64 #[.val (.ref x0), .val (.int (0 : Int32)), .val (.int (3 : Int32)), .val (.int (-1 : Int32)), .val (.int (2 : Int32)), .val (.int (f 2))] []))
            refine own_of (fun _ kk => XS.goto X17.here hx rfl (pc0 := 64) (pc' := 3) rfl (hb hby d9_64) (by decide) (by decide) kk) ?_
            show own_Fin _ _ _ _ _ _ _ (T17.setTop (mkF m 3 #[.val (.ref x0), .val (.int (0 : Int32)), .val (.int (3 : Int32)), .val (.int (-1 : Int32)), .val (.int (2 : Int32)), .val (.int (f 2))] []))
            refine own_of (fun _ kk => XS.iinc X17.here hx rfl (hb hby d9_3) rfl (l' := #[.val (.ref x0), .val (.int (0 : Int32)), .val (.int (3 : Int32)), .val (.int (-1 : Int32)), .val (.int (3 : Int32)), .val (.int (f 2))]) rfl kk) ?_
            show own_Fin _ _ _ _ _ _ _ (T17.setTop (mkF m 6 #[.val (.ref x0), .val (.int (0 : Int32)), .val (.int (3 : Int32)), .val (.int (-1 : Int32)), .val (.int (3 : Int32)), .val (.int (f 2))] []))
            refine own_of (fun _ kk => XS.iload X17.here hx rfl (hb hby d9_6) rfl kk) ?_
            show own_Fin _ _ _ _ _ _ _ (T17.setTop (mkF m 8 #[.val (.ref x0), .val (.int (0 : Int32)), .val (.int (3 : Int32)), .val (.int (-1 : Int32)), .val (.int (3 : Int32)), .val (.int (f 2))] [(.int (3 : Int32))]))
            refine own_of (fun _ kk => XS.iloadN X17.here hx rfl (hb hby d9_8) rfl kk) ?_
            show own_Fin _ _ _ _ _ _ _ (T17.setTop (mkF m 9 #[.val (.ref x0), .val (.int (0 : Int32)), .val (.int (3 : Int32)), .val (.int (-1 : Int32)), .val (.int (3 : Int32)), .val (.int (f 2))] [(.int (3 : Int32)), (.int (3 : Int32))]))
            refine own_of (fun _ kk => XS.icmpYes X17.here hx rfl (pc0 := 9) (pc' := 67) rfl (hb hby d9_9) rfl (flt (by decide : ¬ ((3 : Int32) < (3 : Int32)))).2.1 (by decide) (by decide) kk) ?_
            show own_Fin _ _ _ _ _ _ _ (T17.setTop (mkF m 67 #[.val (.ref x0), .val (.int (0 : Int32)), .val (.int (3 : Int32)), .val (.int (-1 : Int32)), .val (.int (3 : Int32)), .val (.int (f 2))] []))
            exact own_retV X17 hx hlk e17 hret (hb hby d9_67) (by decide) (by decide) ⟨rfl, N17, ZW17, own_tri (f 2) (f 0) (f 1) f, (A17.congr fun j _ => own_tris (F := (fun j => if j = 0 then (.int (f 2)) else (fun j => if j = 1 then (.int (f 0)) else (fun j => if j = 2 then (.int (f 1)) else (fun j => if j = 1 then (.int (f 1)) else (fun j => .int (f j)) j) j) j) j)) (X := (f 2)) (Y := (f 0)) (W := (f 1)) (f := f) rfl rfl rfl (fun j hj => by first | rfl | (dsimp only; (repeat' split) <;> first | (exfalso; omega) | rfl)) j), KW17, own_perm3 f _ _ _ (fun v => by constructor <;> (rintro (h | h | h) <;> simp [h])) (by simp only [Int32.lt_iff_toInt_lt] at *; omega) (by simp only [Int32.lt_iff_toInt_lt] at *; omega)⟩
          · refine own_of (fun _ kk => XS.icmpYes X14.here hx rfl (pc0 := 43) (pc' := 57) rfl (hb hby d9_43) rfl (flt c43_15).2.1 (by decide) (by decide) kk) ?_
            show own_Fin _ _ _ _ _ _ _ (T14.setTop (mkF m 57 #[.val (.ref x0), .val (.int (0 : Int32)), .val (.int (3 : Int32)), .val (.int (0 : Int32)), .val (.int (2 : Int32)), .val (.int (f 2))] []))
            refine own_of (fun _ kk => XS.aloadN X14.here hx rfl (hb hby d9_57) rfl rfl kk) ?_
            show own_Fin _ _ _ _ _ _ _ (T14.setTop (mkF m 58 #[.val (.ref x0), .val (.int (0 : Int32)), .val (.int (3 : Int32)), .val (.int (0 : Int32)), .val (.int (2 : Int32)), .val (.int (f 2))] [(.ref x0)]))
            refine own_of (fun _ kk => XS.iloadN X14.here hx rfl (hb hby d9_58) rfl kk) ?_
            show own_Fin _ _ _ _ _ _ _ (T14.setTop (mkF m 59 #[.val (.ref x0), .val (.int (0 : Int32)), .val (.int (3 : Int32)), .val (.int (0 : Int32)), .val (.int (2 : Int32)), .val (.int (f 2))] [(.int (0 : Int32)), (.ref x0)]))
            refine own_of (fun _ kk => XS.iconst X14.here hx rfl (hb hby d9_59) kk) ?_
            show own_Fin _ _ _ _ _ _ _ (T14.setTop (mkF m 60 #[.val (.ref x0), .val (.int (0 : Int32)), .val (.int (3 : Int32)), .val (.int (0 : Int32)), .val (.int (2 : Int32)), .val (.int (f 2))] [(.int (1 : Int32)), (.int (0 : Int32)), (.ref x0)]))
            refine own_of (fun _ kk => XS.iadd X14.here hx rfl (hb hby d9_60) rfl kk) ?_
            show own_Fin _ _ _ _ _ _ _ (T14.setTop (mkF m 61 #[.val (.ref x0), .val (.int (0 : Int32)), .val (.int (3 : Int32)), .val (.int (0 : Int32)), .val (.int (2 : Int32)), .val (.int (f 2))] [(.int (1 : Int32)), (.ref x0)]))
            refine own_of (fun _ kk => XS.iload X14.here hx rfl (hb hby d9_61) rfl kk) ?_
            show own_Fin _ _ _ _ _ _ _ (T14.setTop (mkF m 63 #[.val (.ref x0), .val (.int (0 : Int32)), .val (.int (3 : Int32)), .val (.int (0 : Int32)), .val (.int (2 : Int32)), .val (.int (f 2))] [(.int (f 2)), (.int (1 : Int32)), (.ref x0)]))
            refine own_iastore X14 hx hZ e14 A14 N14 ge (i := 1) (by decide) (by omega) (hb hby d9_63) ?_
            intro T18 h18 l18 X18 N18 e18 W18 A18
            replace A18 : own_Arf Z h18 x0 .int nw (fun j => if j = 1 then (.int (f 2)) else (fun j => if j = 2 then (.int (f 1)) else (fun j => if j = 1 then (.int (f 1)) else (fun j => .int (f j)) j) j) j) := A18
            have KW18 := KW14.wr W18 (Or.inl (List.mem_of_getElem? (i := 0) rfl))
            have ZW18 : n0 ≤ h18.size := by rw [Wr.size W18]; exact ZW14
            show own_Fin _ _ _ _ _ _ _ (T18.setTop (mkF m 64 #[.val (.ref x0), .val (.int (0 : Int32)), .val (.int (3 : Int32)), .val (.int (0 : Int32)), .val (.int (2 : Int32)), .val (.int (f 2))] []))
            refine own_of (fun _ kk => XS.goto X18.here hx rfl (pc0 := 64) (pc' := 3) rfl (hb hby d9_64) (by decide) (by decide) kk) ?_
            show own_Fin _ _ _ _ _ _ _ (T18.setTop (mkF m 3 #[.val (.ref x0), .val (.int (0 : Int32)), .val (.int (3 : Int32)), .val (.int (0 : Int32)), .val (.int (2 : Int32)), .val (.int (f 2))] []))
            refine own_of (fun _ kk => XS.iinc X18.here hx rfl (hb hby d9_3) rfl (l' := #[.val (.ref x0), .val (.int (0 : Int32)), .val (.int (3 : Int32)), .val (.int (0 : Int32)), .val (.int (3 : Int32)), .val (.int (f 2))]) rfl kk) ?_
            show own_Fin _ _ _ _ _ _ _ (T18.setTop (mkF m 6 #[.val (.ref x0), .val (.int (0 : Int32)), .val (.int (3 : Int32)), .val (.int (0 : Int32)), .val (.int (3 : Int32)), .val (.int (f 2))] []))
            refine own_of (fun _ kk => XS.iload X18.here hx rfl (hb hby d9_6) rfl kk) ?_
            show own_Fin _ _ _ _ _ _ _ (T18.setTop (mkF m 8 #[.val (.ref x0), .val (.int (0 : Int32)), .val (.int (3 : Int32)), .val (.int (0 : Int32)), .val (.int (3 : Int32)), .val (.int (f 2))] [(.int (3 : Int32))]))
            refine own_of (fun _ kk => XS.iloadN X18.here hx rfl (hb hby d9_8) rfl kk) ?_
            show own_Fin _ _ _ _ _ _ _ (T18.setTop (mkF m 9 #[.val (.ref x0), .val (.int (0 : Int32)), .val (.int (3 : Int32)), .val (.int (0 : Int32)), .val (.int (3 : Int32)), .val (.int (f 2))] [(.int (3 : Int32)), (.int (3 : Int32))]))
            refine own_of (fun _ kk => XS.icmpYes X18.here hx rfl (pc0 := 9) (pc' := 67) rfl (hb hby d9_9) rfl (flt (by decide : ¬ ((3 : Int32) < (3 : Int32)))).2.1 (by decide) (by decide) kk) ?_
            show own_Fin _ _ _ _ _ _ _ (T18.setTop (mkF m 67 #[.val (.ref x0), .val (.int (0 : Int32)), .val (.int (3 : Int32)), .val (.int (0 : Int32)), .val (.int (3 : Int32)), .val (.int (f 2))] []))
            exact own_retV X18 hx hlk e18 hret (hb hby d9_67) (by decide) (by decide) ⟨rfl, N18, ZW18, own_tri (f 0) (f 2) (f 1) f, (A18.congr fun j _ => own_tris (F := (fun j => if j = 1 then (.int (f 2)) else (fun j => if j = 2 then (.int (f 1)) else (fun j => if j = 1 then (.int (f 1)) else (fun j => .int (f j)) j) j) j)) (X := (f 0)) (Y := (f 2)) (W := (f 1)) (f := f) rfl rfl rfl (fun j hj => by first | rfl | (dsimp only; (repeat' split) <;> first | (exfalso; omega) | rfl)) j), KW18, own_perm3 f _ _ _ (fun v => by constructor <;> (rintro (h | h | h) <;> simp [h])) (by simp only [Int32.lt_iff_toInt_lt] at *; omega) (by simp only [Int32.lt_iff_toInt_lt] at *; omega)⟩
        · refine own_of (fun _ kk => XS.icmpYes X11.here hx rfl (pc0 := 43) (pc' := 57) rfl (hb hby d9_43) rfl (flt c43_13).2.1 (by decide) (by decide) kk) ?_
          show own_Fin _ _ _ _ _ _ _ (T11.setTop (mkF m 57 #[.val (.ref x0), .val (.int (0 : Int32)), .val (.int (3 : Int32)), .val (.int (1 : Int32)), .val (.int (2 : Int32)), .val (.int (f 2))] []))
          refine own_of (fun _ kk => XS.aloadN X11.here hx rfl (hb hby d9_57) rfl rfl kk) ?_
          show own_Fin _ _ _ _ _ _ _ (T11.setTop (mkF m 58 #[.val (.ref x0), .val (.int (0 : Int32)), .val (.int (3 : Int32)), .val (.int (1 : Int32)), .val (.int (2 : Int32)), .val (.int (f 2))] [(.ref x0)]))
          refine own_of (fun _ kk => XS.iloadN X11.here hx rfl (hb hby d9_58) rfl kk) ?_
          show own_Fin _ _ _ _ _ _ _ (T11.setTop (mkF m 59 #[.val (.ref x0), .val (.int (0 : Int32)), .val (.int (3 : Int32)), .val (.int (1 : Int32)), .val (.int (2 : Int32)), .val (.int (f 2))] [(.int (1 : Int32)), (.ref x0)]))
          refine own_of (fun _ kk => XS.iconst X11.here hx rfl (hb hby d9_59) kk) ?_
          show own_Fin _ _ _ _ _ _ _ (T11.setTop (mkF m 60 #[.val (.ref x0), .val (.int (0 : Int32)), .val (.int (3 : Int32)), .val (.int (1 : Int32)), .val (.int (2 : Int32)), .val (.int (f 2))] [(.int (1 : Int32)), (.int (1 : Int32)), (.ref x0)]))
          refine own_of (fun _ kk => XS.iadd X11.here hx rfl (hb hby d9_60) rfl kk) ?_
          show own_Fin _ _ _ _ _ _ _ (T11.setTop (mkF m 61 #[.val (.ref x0), .val (.int (0 : Int32)), .val (.int (3 : Int32)), .val (.int (1 : Int32)), .val (.int (2 : Int32)), .val (.int (f 2))] [(.int (2 : Int32)), (.ref x0)]))
          refine own_of (fun _ kk => XS.iload X11.here hx rfl (hb hby d9_61) rfl kk) ?_
          show own_Fin _ _ _ _ _ _ _ (T11.setTop (mkF m 63 #[.val (.ref x0), .val (.int (0 : Int32)), .val (.int (3 : Int32)), .val (.int (1 : Int32)), .val (.int (2 : Int32)), .val (.int (f 2))] [(.int (f 2)), (.int (2 : Int32)), (.ref x0)]))
          refine own_iastore X11 hx hZ e11 A11 N11 ge (i := 2) (by decide) (by omega) (hb hby d9_63) ?_
          intro T19 h19 l19 X19 N19 e19 W19 A19
          replace A19 : own_Arf Z h19 x0 .int nw (fun j => if j = 2 then (.int (f 2)) else (fun j => if j = 1 then (.int (f 1)) else (fun j => .int (f j)) j) j) := A19
          have KW19 := KW11.wr W19 (Or.inl (List.mem_of_getElem? (i := 0) rfl))
          have ZW19 : n0 ≤ h19.size := by rw [Wr.size W19]; exact ZW11
          show own_Fin _ _ _ _ _ _ _ (T19.setTop (mkF m 64 #[.val (.ref x0), .val (.int (0 : Int32)), .val (.int (3 : Int32)), .val (.int (1 : Int32)), .val (.int (2 : Int32)), .val (.int (f 2))] []))
          refine own_of (fun _ kk => XS.goto X19.here hx rfl (pc0 := 64) (pc' := 3) rfl (hb hby d9_64) (by decide) (by decide) kk) ?_
          show own_Fin _ _ _ _ _ _ _ (T19.setTop (mkF m 3 #[.val (.ref x0), .val (.int (0 : Int32)), .val (.int (3 : Int32)), .val (.int (1 : Int32)), .val (.int (2 : Int32)), .val (.int (f 2))] []))
          refine own_of (fun _ kk => XS.iinc X19.here hx rfl (hb hby d9_3) rfl (l' := #[.val (.ref x0), .val (.int (0 : Int32)), .val (.int (3 : Int32)), .val (.int (1 : Int32)), .val (.int (3 : Int32)), .val (.int (f 2))]) rfl kk) ?_
          show own_Fin _ _ _ _ _ _ _ (T19.setTop (mkF m 6 #[.val (.ref x0), .val (.int (0 : Int32)), .val (.int (3 : Int32)), .val (.int (1 : Int32)), .val (.int (3 : Int32)), .val (.int (f 2))] []))
          refine own_of (fun _ kk => XS.iload X19.here hx rfl (hb hby d9_6) rfl kk) ?_
          show own_Fin _ _ _ _ _ _ _ (T19.setTop (mkF m 8 #[.val (.ref x0), .val (.int (0 : Int32)), .val (.int (3 : Int32)), .val (.int (1 : Int32)), .val (.int (3 : Int32)), .val (.int (f 2))] [(.int (3 : Int32))]))
          refine own_of (fun _ kk => XS.iloadN X19.here hx rfl (hb hby d9_8) rfl kk) ?_
          show own_Fin _ _ _ _ _ _ _ (T19.setTop (mkF m 9 #[.val (.ref x0), .val (.int (0 : Int32)), .val (.int (3 : Int32)), .val (.int (1 : Int32)), .val (.int (3 : Int32)), .val (.int (f 2))] [(.int (3 : Int32)), (.int (3 : Int32))]))
          refine own_of (fun _ kk => XS.icmpYes X19.here hx rfl (pc0 := 9) (pc' := 67) rfl (hb hby d9_9) rfl (flt (by decide : ¬ ((3 : Int32) < (3 : Int32)))).2.1 (by decide) (by decide) kk) ?_
          show own_Fin _ _ _ _ _ _ _ (T19.setTop (mkF m 67 #[.val (.ref x0), .val (.int (0 : Int32)), .val (.int (3 : Int32)), .val (.int (1 : Int32)), .val (.int (3 : Int32)), .val (.int (f 2))] []))
          exact own_retV X19 hx hlk e19 hret (hb hby d9_67) (by decide) (by decide) ⟨rfl, N19, ZW19, own_tri (f 0) (f 1) (f 2) f, (A19.congr fun j _ => own_tris (F := (fun j => if j = 2 then (.int (f 2)) else (fun j => if j = 1 then (.int (f 1)) else (fun j => .int (f j)) j) j)) (X := (f 0)) (Y := (f 1)) (W := (f 2)) (f := f) rfl rfl rfl (fun j hj => by first | rfl | (dsimp only; (repeat' split) <;> first | (exfalso; omega) | rfl)) j), KW19, own_perm3 f _ _ _ (fun v => by constructor <;> (rintro (h | h | h) <;> simp [h])) (by simp only [Int32.lt_iff_toInt_lt] at *; omega) (by simp only [Int32.lt_iff_toInt_lt] at *; omega)⟩
      · refine own_of (fun _ kk => XS.icmpYes X11.here hx rfl (pc0 := 27) (pc' := 64) rfl (hb hby d9_27) rfl (flt c27_12).2.1 (by decide) (by decide) kk) ?_
        show own_Fin _ _ _ _ _ _ _ (T11.setTop (mkF m 64 #[.val (.ref x0), .val (.int (0 : Int32)), .val (.int (3 : Int32)), .val (.int (2 : Int32)), .val (.int (2 : Int32)), .val (.int (f 2))] []))
        refine own_of (fun _ kk => XS.goto X11.here hx rfl (pc0 := 64) (pc' := 3) rfl (hb hby d9_64) (by decide) (by decide) kk) ?_
        show own_Fin _ _ _ _ _ _ _ (T11.setTop (mkF m 3 #[.val (.ref x0), .val (.int (0 : Int32)), .val (.int (3 : Int32)), .val (.int (2 : Int32)), .val (.int (2 : Int32)), .val (.int (f 2))] []))
        refine own_of (fun _ kk => XS.iinc X11.here hx rfl (hb hby d9_3) rfl (l' := #[.val (.ref x0), .val (.int (0 : Int32)), .val (.int (3 : Int32)), .val (.int (2 : Int32)), .val (.int (3 : Int32)), .val (.int (f 2))]) rfl kk) ?_
        show own_Fin _ _ _ _ _ _ _ (T11.setTop (mkF m 6 #[.val (.ref x0), .val (.int (0 : Int32)), .val (.int (3 : Int32)), .val (.int (2 : Int32)), .val (.int (3 : Int32)), .val (.int (f 2))] []))
        refine own_of (fun _ kk => XS.iload X11.here hx rfl (hb hby d9_6) rfl kk) ?_
        show own_Fin _ _ _ _ _ _ _ (T11.setTop (mkF m 8 #[.val (.ref x0), .val (.int (0 : Int32)), .val (.int (3 : Int32)), .val (.int (2 : Int32)), .val (.int (3 : Int32)), .val (.int (f 2))] [(.int (3 : Int32))]))
        refine own_of (fun _ kk => XS.iloadN X11.here hx rfl (hb hby d9_8) rfl kk) ?_
        show own_Fin _ _ _ _ _ _ _ (T11.setTop (mkF m 9 #[.val (.ref x0), .val (.int (0 : Int32)), .val (.int (3 : Int32)), .val (.int (2 : Int32)), .val (.int (3 : Int32)), .val (.int (f 2))] [(.int (3 : Int32)), (.int (3 : Int32))]))
        refine own_of (fun _ kk => XS.icmpYes X11.here hx rfl (pc0 := 9) (pc' := 67) rfl (hb hby d9_9) rfl (flt (by decide : ¬ ((3 : Int32) < (3 : Int32)))).2.1 (by decide) (by decide) kk) ?_
        show own_Fin _ _ _ _ _ _ _ (T11.setTop (mkF m 67 #[.val (.ref x0), .val (.int (0 : Int32)), .val (.int (3 : Int32)), .val (.int (2 : Int32)), .val (.int (3 : Int32)), .val (.int (f 2))] []))
        exact own_retV X11 hx hlk e11 hret (hb hby d9_67) (by decide) (by decide) ⟨rfl, N11, ZW11, own_tri (f 0) (f 1) (f 2) f, (A11.congr fun j _ => own_tris (F := (fun j => if j = 1 then (.int (f 1)) else (fun j => .int (f j)) j)) (X := (f 0)) (Y := (f 1)) (W := (f 2)) (f := f) rfl rfl rfl (fun j hj => by first | rfl | (dsimp only; (repeat' split) <;> first | (exfalso; omega) | rfl)) j), KW11, own_perm3 f _ _ _ (fun v => by constructor <;> (rintro (h | h | h) <;> simp [h])) (by simp only [Int32.lt_iff_toInt_lt] at *; omega) (by simp only [Int32.lt_iff_toInt_lt] at *; omega)⟩
  · refine own_of (fun _ kk => XS.icmpYes X0.here hx rfl (pc0 := 27) (pc' := 64) rfl (hb hby d9_27) rfl (flt c27).2.1 (by decide) (by decide) kk) ?_
    show own_Fin _ _ _ _ _ _ _ (T0.setTop (mkF m 64 #[.val (.ref x0), .val (.int (0 : Int32)), .val (.int (3 : Int32)), .val (.int (1 : Int32)), .val (.int (1 : Int32)), .val (.int (f 1))] []))
    refine own_of (fun _ kk => XS.goto X0.here hx rfl (pc0 := 64) (pc' := 3) rfl (hb hby d9_64) (by decide) (by decide) kk) ?_
    show own_Fin _ _ _ _ _ _ _ (T0.setTop (mkF m 3 #[.val (.ref x0), .val (.int (0 : Int32)), .val (.int (3 : Int32)), .val (.int (1 : Int32)), .val (.int (1 : Int32)), .val (.int (f 1))] []))
    refine own_of (fun _ kk => XS.iinc X0.here hx rfl (hb hby d9_3) rfl (l' := #[.val (.ref x0), .val (.int (0 : Int32)), .val (.int (3 : Int32)), .val (.int (1 : Int32)), .val (.int (2 : Int32)), .val (.int (f 1))]) rfl kk) ?_
    show own_Fin _ _ _ _ _ _ _ (T0.setTop (mkF m 6 #[.val (.ref x0), .val (.int (0 : Int32)), .val (.int (3 : Int32)), .val (.int (1 : Int32)), .val (.int (2 : Int32)), .val (.int (f 1))] []))
    refine own_of (fun _ kk => XS.iload X0.here hx rfl (hb hby d9_6) rfl kk) ?_
    show own_Fin _ _ _ _ _ _ _ (T0.setTop (mkF m 8 #[.val (.ref x0), .val (.int (0 : Int32)), .val (.int (3 : Int32)), .val (.int (1 : Int32)), .val (.int (2 : Int32)), .val (.int (f 1))] [(.int (2 : Int32))]))
    refine own_of (fun _ kk => XS.iloadN X0.here hx rfl (hb hby d9_8) rfl kk) ?_
    show own_Fin _ _ _ _ _ _ _ (T0.setTop (mkF m 9 #[.val (.ref x0), .val (.int (0 : Int32)), .val (.int (3 : Int32)), .val (.int (1 : Int32)), .val (.int (2 : Int32)), .val (.int (f 1))] [(.int (3 : Int32)), (.int (2 : Int32))]))
    refine own_of (fun _ kk => XS.icmpNo X0.here hx rfl (hb hby d9_9) rfl (tlt (by decide : ((2 : Int32) < (3 : Int32)))).2.1 kk) ?_
    show own_Fin _ _ _ _ _ _ _ (T0.setTop (mkF m 12 #[.val (.ref x0), .val (.int (0 : Int32)), .val (.int (3 : Int32)), .val (.int (1 : Int32)), .val (.int (2 : Int32)), .val (.int (f 1))] []))
    refine own_of (fun _ kk => XS.aloadN X0.here hx rfl (hb hby d9_12) rfl rfl kk) ?_
    show own_Fin _ _ _ _ _ _ _ (T0.setTop (mkF m 13 #[.val (.ref x0), .val (.int (0 : Int32)), .val (.int (3 : Int32)), .val (.int (1 : Int32)), .val (.int (2 : Int32)), .val (.int (f 1))] [(.ref x0)]))
    refine own_of (fun _ kk => XS.iload X0.here hx rfl (hb hby d9_13) rfl kk) ?_
    show own_Fin _ _ _ _ _ _ _ (T0.setTop (mkF m 15 #[.val (.ref x0), .val (.int (0 : Int32)), .val (.int (3 : Int32)), .val (.int (1 : Int32)), .val (.int (2 : Int32)), .val (.int (f 1))] [(.int (2 : Int32)), (.ref x0)]))
    refine own_of (fun _ kk => XS.dup X0.here hx rfl (hb hby d9_15) rfl rfl kk) ?_
    show own_Fin _ _ _ _ _ _ _ (T0.setTop (mkF m 16 #[.val (.ref x0), .val (.int (0 : Int32)), .val (.int (3 : Int32)), .val (.int (1 : Int32)), .val (.int (2 : Int32)), .val (.int (f 1))] [(.int (2 : Int32)), (.int (2 : Int32)), (.ref x0)]))
    refine own_of (fun _ kk => XS.istoreN X0.here hx rfl (hb hby d9_16) rfl (l' := #[.val (.ref x0), .val (.int (0 : Int32)), .val (.int (3 : Int32)), .val (.int (2 : Int32)), .val (.int (2 : Int32)), .val (.int (f 1))]) rfl kk) ?_
    show own_Fin _ _ _ _ _ _ _ (T0.setTop (mkF m 17 #[.val (.ref x0), .val (.int (0 : Int32)), .val (.int (3 : Int32)), .val (.int (2 : Int32)), .val (.int (2 : Int32)), .val (.int (f 1))] [(.int (2 : Int32)), (.ref x0)]))
    refine own_iaload X0 hx hZ e0 A (i := 2) (by decide) (by omega) (v := (.int (f 2))) rfl (hb hby d9_17) ?_
    show own_Fin _ _ _ _ _ _ _ (T0.setTop (mkF m 18 #[.val (.ref x0), .val (.int (0 : Int32)), .val (.int (3 : Int32)), .val (.int (2 : Int32)), .val (.int (2 : Int32)), .val (.int (f 1))] [(.int (f 2))]))
    refine own_of (fun _ kk => XS.istore X0.here hx rfl (hb hby d9_18) rfl (l' := #[.val (.ref x0), .val (.int (0 : Int32)), .val (.int (3 : Int32)), .val (.int (2 : Int32)), .val (.int (2 : Int32)), .val (.int (f 2))]) rfl kk) ?_
    show own_Fin _ _ _ _ _ _ _ (T0.setTop (mkF m 20 #[.val (.ref x0), .val (.int (0 : Int32)), .val (.int (3 : Int32)), .val (.int (2 : Int32)), .val (.int (2 : Int32)), .val (.int (f 2))] []))
    refine own_of (fun _ kk => XS.iload X0.here hx rfl (hb hby d9_20) rfl kk) ?_
    show own_Fin _ _ _ _ _ _ _ (T0.setTop (mkF m 22 #[.val (.ref x0), .val (.int (0 : Int32)), .val (.int (3 : Int32)), .val (.int (2 : Int32)), .val (.int (2 : Int32)), .val (.int (f 2))] [(.int (f 2))]))
    refine own_of (fun _ kk => XS.aloadN X0.here hx rfl (hb hby d9_22) rfl rfl kk) ?_
    show own_Fin _ _ _ _ _ _ _ (T0.setTop (mkF m 23 #[.val (.ref x0), .val (.int (0 : Int32)), .val (.int (3 : Int32)), .val (.int (2 : Int32)), .val (.int (2 : Int32)), .val (.int (f 2))] [(.ref x0), (.int (f 2))]))
    refine own_of (fun _ kk => XS.iloadN X0.here hx rfl (hb hby d9_23) rfl kk) ?_
    show own_Fin _ _ _ _ _ _ _ (T0.setTop (mkF m 24 #[.val (.ref x0), .val (.int (0 : Int32)), .val (.int (3 : Int32)), .val (.int (2 : Int32)), .val (.int (2 : Int32)), .val (.int (f 2))] [(.int (2 : Int32)), (.ref x0), (.int (f 2))]))
    refine own_of (fun _ kk => XS.iconst X0.here hx rfl (hb hby d9_24) kk) ?_
    show own_Fin _ _ _ _ _ _ _ (T0.setTop (mkF m 25 #[.val (.ref x0), .val (.int (0 : Int32)), .val (.int (3 : Int32)), .val (.int (2 : Int32)), .val (.int (2 : Int32)), .val (.int (f 2))] [(.int (1 : Int32)), (.int (2 : Int32)), (.ref x0), (.int (f 2))]))
    refine own_of (fun _ kk => XS.isub X0.here hx rfl (hb hby d9_25) rfl kk) ?_
    show own_Fin _ _ _ _ _ _ _ (T0.setTop (mkF m 26 #[.val (.ref x0), .val (.int (0 : Int32)), .val (.int (3 : Int32)), .val (.int (2 : Int32)), .val (.int (2 : Int32)), .val (.int (f 2))] [(.int (1 : Int32)), (.ref x0), (.int (f 2))]))
    refine own_iaload X0 hx hZ e0 A (i := 1) (by decide) (by omega) (v := (.int (f 1))) rfl (hb hby d9_26) ?_
    show own_Fin _ _ _ _ _ _ _ (T0.setTop (mkF m 27 #[.val (.ref x0), .val (.int (0 : Int32)), .val (.int (3 : Int32)), .val (.int (2 : Int32)), .val (.int (2 : Int32)), .val (.int (f 2))] [(.int (f 1)), (.int (f 2))]))
    by_cases c27_20 : (f 2) < (f 1)
    · refine own_of (fun _ kk => XS.icmpNo X0.here hx rfl (hb hby d9_27) rfl (tlt c27_20).2.1 kk) ?_
      show own_Fin _ _ _ _ _ _ _ (T0.setTop (mkF m 30 #[.val (.ref x0), .val (.int (0 : Int32)), .val (.int (3 : Int32)), .val (.int (2 : Int32)), .val (.int (2 : Int32)), .val (.int (f 2))] []))
      refine own_of (fun _ kk => XS.iinc X0.here hx rfl (hb hby d9_30) rfl (l' := #[.val (.ref x0), .val (.int (0 : Int32)), .val (.int (3 : Int32)), .val (.int (1 : Int32)), .val (.int (2 : Int32)), .val (.int (f 2))]) rfl kk) ?_
      show own_Fin _ _ _ _ _ _ _ (T0.setTop (mkF m 33 #[.val (.ref x0), .val (.int (0 : Int32)), .val (.int (3 : Int32)), .val (.int (1 : Int32)), .val (.int (2 : Int32)), .val (.int (f 2))] []))
      refine own_of (fun _ kk => XS.iloadN X0.here hx rfl (hb hby d9_33) rfl kk) ?_
      show own_Fin _ _ _ _ _ _ _ (T0.setTop (mkF m 34 #[.val (.ref x0), .val (.int (0 : Int32)), .val (.int (3 : Int32)), .val (.int (1 : Int32)), .val (.int (2 : Int32)), .val (.int (f 2))] [(.int (1 : Int32))]))
      refine own_of (fun _ kk => XS.iloadN X0.here hx rfl (hb hby d9_34) rfl kk) ?_
      show own_Fin _ _ _ _ _ _ _ (T0.setTop (mkF m 35 #[.val (.ref x0), .val (.int (0 : Int32)), .val (.int (3 : Int32)), .val (.int (1 : Int32)), .val (.int (2 : Int32)), .val (.int (f 2))] [(.int (0 : Int32)), (.int (1 : Int32))]))
      refine own_of (fun _ kk => XS.icmpNo X0.here hx rfl (hb hby d9_35) rfl (flt (by decide : ¬ ((1 : Int32) < (0 : Int32)))).1 kk) ?_
      show own_Fin _ _ _ _ _ _ _ (T0.setTop (mkF m 38 #[.val (.ref x0), .val (.int (0 : Int32)), .val (.int (3 : Int32)), .val (.int (1 : Int32)), .val (.int (2 : Int32)), .val (.int (f 2))] []))
      refine own_of (fun _ kk => XS.iload X0.here hx rfl (hb hby d9_38) rfl kk) ?_
      show own_Fin _ _ _ _ _ _ _ (T0.setTop (mkF m 40 #[.val (.ref x0), .val (.int (0 : Int32)), .val (.int (3 : Int32)), .val (.int (1 : Int32)), .val (.int (2 : Int32)), .val (.int (f 2))] [(.int (f 2))]))
      refine own_of (fun _ kk => XS.aloadN X0.here hx rfl (hb hby d9_40) rfl rfl kk) ?_
      show own_Fin _ _ _ _ _ _ _ (T0.setTop (mkF m 41 #[.val (.ref x0), .val (.int (0 : Int32)), .val (.int (3 : Int32)), .val (.int (1 : Int32)), .val (.int (2 : Int32)), .val (.int (f 2))] [(.ref x0), (.int (f 2))]))
      refine own_of (fun _ kk => XS.iloadN X0.here hx rfl (hb hby d9_41) rfl kk) ?_
      show own_Fin _ _ _ _ _ _ _ (T0.setTop (mkF m 42 #[.val (.ref x0), .val (.int (0 : Int32)), .val (.int (3 : Int32)), .val (.int (1 : Int32)), .val (.int (2 : Int32)), .val (.int (f 2))] [(.int (1 : Int32)), (.ref x0), (.int (f 2))]))
      refine own_iaload X0 hx hZ e0 A (i := 1) (by decide) (by omega) (v := (.int (f 1))) rfl (hb hby d9_42) ?_
      show own_Fin _ _ _ _ _ _ _ (T0.setTop (mkF m 43 #[.val (.ref x0), .val (.int (0 : Int32)), .val (.int (3 : Int32)), .val (.int (1 : Int32)), .val (.int (2 : Int32)), .val (.int (f 2))] [(.int (f 1)), (.int (f 2))]))
      by_cases c43 : (f 2) < (f 1)
      · refine own_of (fun _ kk => XS.icmpNo X0.here hx rfl (hb hby d9_43) rfl (tlt c43).2.1 kk) ?_
        show own_Fin _ _ _ _ _ _ _ (T0.setTop (mkF m 46 #[.val (.ref x0), .val (.int (0 : Int32)), .val (.int (3 : Int32)), .val (.int (1 : Int32)), .val (.int (2 : Int32)), .val (.int (f 2))] []))
        refine own_of (fun _ kk => XS.aloadN X0.here hx rfl (hb hby d9_46) rfl rfl kk) ?_
        show own_Fin _ _ _ _ _ _ _ (T0.setTop (mkF m 47 #[.val (.ref x0), .val (.int (0 : Int32)), .val (.int (3 : Int32)), .val (.int (1 : Int32)), .val (.int (2 : Int32)), .val (.int (f 2))] [(.ref x0)]))
        refine own_of (fun _ kk => XS.iloadN X0.here hx rfl (hb hby d9_47) rfl kk) ?_
        show own_Fin _ _ _ _ _ _ _ (T0.setTop (mkF m 48 #[.val (.ref x0), .val (.int (0 : Int32)), .val (.int (3 : Int32)), .val (.int (1 : Int32)), .val (.int (2 : Int32)), .val (.int (f 2))] [(.int (1 : Int32)), (.ref x0)]))
        refine own_of (fun _ kk => XS.iconst X0.here hx rfl (hb hby d9_48) kk) ?_
        show own_Fin _ _ _ _ _ _ _ (T0.setTop (mkF m 49 #[.val (.ref x0), .val (.int (0 : Int32)), .val (.int (3 : Int32)), .val (.int (1 : Int32)), .val (.int (2 : Int32)), .val (.int (f 2))] [(.int (1 : Int32)), (.int (1 : Int32)), (.ref x0)]))
        refine own_of (fun _ kk => XS.iadd X0.here hx rfl (hb hby d9_49) rfl kk) ?_
        show own_Fin _ _ _ _ _ _ _ (T0.setTop (mkF m 50 #[.val (.ref x0), .val (.int (0 : Int32)), .val (.int (3 : Int32)), .val (.int (1 : Int32)), .val (.int (2 : Int32)), .val (.int (f 2))] [(.int (2 : Int32)), (.ref x0)]))
        refine own_of (fun _ kk => XS.aloadN X0.here hx rfl (hb hby d9_50) rfl rfl kk) ?_
        show own_Fin _ _ _ _ _ _ _ (T0.setTop (mkF m 51 #[.val (.ref x0), .val (.int (0 : Int32)), .val (.int (3 : Int32)), .val (.int (1 : Int32)), .val (.int (2 : Int32)), .val (.int (f 2))] [(.ref x0), (.int (2 : Int32)), (.ref x0)]))
        refine own_of (fun _ kk => XS.iloadN X0.here hx rfl (hb hby d9_51) rfl kk) ?_
        show own_Fin _ _ _ _ _ _ _ (T0.setTop (mkF m 52 #[.val (.ref x0), .val (.int (0 : Int32)), .val (.int (3 : Int32)), .val (.int (1 : Int32)), .val (.int (2 : Int32)), .val (.int (f 2))] [(.int (1 : Int32)), (.ref x0), (.int (2 : Int32)), (.ref x0)]))
        refine own_iaload X0 hx hZ e0 A (i := 1) (by decide) (by omega) (v := (.int (f 1))) rfl (hb hby d9_52) ?_
        show own_Fin _ _ _ _ _ _ _ (T0.setTop (mkF m 53 #[.val (.ref x0), .val (.int (0 : Int32)), .val (.int (3 : Int32)), .val (.int (1 : Int32)), .val (.int (2 : Int32)), .val (.int (f 2))] [(.int (f 1)), (.int (2 : Int32)), (.ref x0)]))
        refine own_iastore X0 hx hZ e0 A N0 ge (i := 2) (by decide) (by omega) (hb hby d9_53) ?_
        intro T21 h21 l21 X21 N21 e21 W21 A21
        replace A21 : own_Arf Z h21 x0 .int nw (fun j => if j = 2 then (.int (f 1)) else (fun j => .int (f j)) j) := A21
        have KW21 := K.wr W21 (Or.inl (List.mem_of_getElem? (i := 0) rfl))
        have ZW21 : n0 ≤ h21.size := by rw [Wr.size W21]; exact Z0
        show own_Fin _ _ _ _ _ _ _ (T21.setTop (mkF m 54 #[.val (.ref x0), .val (.int (0 : Int32)), .val (.int (3 : Int32)), .val (.int (1 : Int32)), .val (.int (2 : Int32)), .val (.int (f 2))] []))
        refine own_of (fun _ kk => XS.goto X21.here hx rfl (pc0 := 54) (pc' := 30) rfl (hb hby d9_54) (by decide) (by decide) kk) ?_
        show own_Fin _ _ _ _ _ _ _ (T21.setTop (mkF m 30 #[.val (.ref x0), .val (.int (0 : Int32)), .val (.int (3 : Int32)), .val (.int (1 : Int32)), .val (.int (2 : Int32)), .val (.int (f 2))] []))
        refine own_of (fun _ kk => XS.iinc X21.here hx rfl (hb hby d9_30) rfl (l' := #[.val (.ref x0), .val (.int (0 : Int32)), .val (.int (3 : Int32)), .val (.int (0 : Int32)), .val (.int (2 : Int32)), .val (.int (f 2))]) rfl kk) ?_
        show own_Fin _ _ _ _ _ _ _ (T21.setTop (mkF m 33 #[.val (.ref x0), .val (.int (0 : Int32)), .val (.int (3 : Int32)), .val (.int (0 : Int32)), .val (.int (2 : Int32)), .val (.int (f 2))] []))
        refine own_of (fun _ kk => XS.iloadN X21.here hx rfl (hb hby d9_33) rfl kk) ?_
        show own_Fin _ _ _ _ _ _ _ (T21.setTop (mkF m 34 #[.val (.ref x0), .val (.int (0 : Int32)), .val (.int (3 : Int32)), .val (.int (0 : Int32)), .val (.int (2 : Int32)), .val (.int (f 2))] [(.int (0 : Int32))]))
        refine own_of (fun _ kk => XS.iloadN X21.here hx rfl (hb hby d9_34) rfl kk) ?_
        show own_Fin _ _ _ _ _ _ _ (T21.setTop (mkF m 35 #[.val (.ref x0), .val (.int (0 : Int32)), .val (.int (3 : Int32)), .val (.int (0 : Int32)), .val (.int (2 : Int32)), .val (.int (f 2))] [(.int (0 : Int32)), (.int (0 : Int32))]))
        refine own_of (fun _ kk => XS.icmpNo X21.here hx rfl (hb hby d9_35) rfl (flt (by decide : ¬ ((0 : Int32) < (0 : Int32)))).1 kk) ?_
        show own_Fin _ _ _ _ _ _ _ (T21.setTop (mkF m 38 #[.val (.ref x0), .val (.int (0 : Int32)), .val (.int (3 : Int32)), .val (.int (0 : Int32)), .val (.int (2 : Int32)), .val (.int (f 2))] []))
        refine own_of (fun _ kk => XS.iload X21.here hx rfl (hb hby d9_38) rfl kk) ?_
        show own_Fin _ _ _ _ _ _ _ (T21.setTop (mkF m 40 #[.val (.ref x0), .val (.int (0 : Int32)), .val (.int (3 : Int32)), .val (.int (0 : Int32)), .val (.int (2 : Int32)), .val (.int (f 2))] [(.int (f 2))]))
        refine own_of (fun _ kk => XS.aloadN X21.here hx rfl (hb hby d9_40) rfl rfl kk) ?_
        show own_Fin _ _ _ _ _ _ _ (T21.setTop (mkF m 41 #[.val (.ref x0), .val (.int (0 : Int32)), .val (.int (3 : Int32)), .val (.int (0 : Int32)), .val (.int (2 : Int32)), .val (.int (f 2))] [(.ref x0), (.int (f 2))]))
        refine own_of (fun _ kk => XS.iloadN X21.here hx rfl (hb hby d9_41) rfl kk) ?_
        show own_Fin _ _ _ _ _ _ _ (T21.setTop (mkF m 42 #[.val (.ref x0), .val (.int (0 : Int32)), .val (.int (3 : Int32)), .val (.int (0 : Int32)), .val (.int (2 : Int32)), .val (.int (f 2))] [(.int (0 : Int32)), (.ref x0), (.int (f 2))]))
        refine own_iaload X21 hx hZ e21 A21 (i := 0) (by decide) (by omega) (v := (.int (f 0))) rfl (hb hby d9_42) ?_
        show own_Fin _ _ _ _ _ _ _ (T21.setTop (mkF m 43 #[.val (.ref x0), .val (.int (0 : Int32)), .val (.int (3 : Int32)), .val (.int (0 : Int32)), .val (.int (2 : Int32)), .val (.int (f 2))] [(.int (f 0)), (.int (f 2))]))
        by_cases c43_22 : (f 2) < (f 0)
        · refine own_of (fun _ kk => XS.icmpNo X21.here hx rfl (hb hby d9_43) rfl (tlt c43_22).2.1 kk) ?_
          show own_Fin _ _ _ _ _ _ _ (T21.setTop (mkF m 46 #[.val (.ref x0), .val (.int (0 : Int32)), .val (.int (3 : Int32)), .val (.int (0 : Int32)), .val (.int (2 : Int32)), .val (.int (f 2))] []))
          refine own_of (fun _ kk => XS.aloadN X21.here hx rfl (hb hby d9_46) rfl rfl kk) ?_
          show own_Fin _ _ _ _ _ _ _ (T21.setTop (mkF m 47 #[.val (.ref x0), .val (.int (0 : Int32)), .val (.int (3 : Int32)), .val (.int (0 : Int32)), .val (.int (2 : Int32)), .val (.int (f 2))] [(.ref x0)]))
          refine own_of (fun _ kk => XS.iloadN X21.here hx rfl (hb hby d9_47) rfl kk) ?_
          show own_Fin _ _ _ _ _ _ _ (T21.setTop (mkF m 48 #[.val (.ref x0), .val (.int (0 : Int32)), .val (.int (3 : Int32)), .val (.int (0 : Int32)), .val (.int (2 : Int32)), .val (.int (f 2))] [(.int (0 : Int32)), (.ref x0)]))
          refine own_of (fun _ kk => XS.iconst X21.here hx rfl (hb hby d9_48) kk) ?_
          show own_Fin _ _ _ _ _ _ _ (T21.setTop (mkF m 49 #[.val (.ref x0), .val (.int (0 : Int32)), .val (.int (3 : Int32)), .val (.int (0 : Int32)), .val (.int (2 : Int32)), .val (.int (f 2))] [(.int (1 : Int32)), (.int (0 : Int32)), (.ref x0)]))
          refine own_of (fun _ kk => XS.iadd X21.here hx rfl (hb hby d9_49) rfl kk) ?_
          show own_Fin _ _ _ _ _ _ _ (T21.setTop (mkF m 50 #[.val (.ref x0), .val (.int (0 : Int32)), .val (.int (3 : Int32)), .val (.int (0 : Int32)), .val (.int (2 : Int32)), .val (.int (f 2))] [(.int (1 : Int32)), (.ref x0)]))
          refine own_of (fun _ kk => XS.aloadN X21.here hx rfl (hb hby d9_50) rfl rfl kk) ?_
          show own_Fin _ _ _ _ _ _ _ (T21.setTop (mkF m 51 #[.val (.ref x0), .val (.int (0 : Int32)), .val (.int (3 : Int32)), .val (.int (0 : Int32)), .val (.int (2 : Int32)), .val (.int (f 2))] [(.ref x0), (.int (1 : Int32)), (.ref x0)]))
          refine own_of (fun _ kk => XS.iloadN X21.here hx rfl (hb hby d9_51) rfl kk) ?_
          show own_Fin _ _ _ _ _ _ _ (T21.setTop (mkF m 52 #[.val (.ref x0), .val (.int (0 : Int32)), .val (.int (3 : Int32)), .val (.int (0 : Int32)), .val (.int (2 : Int32)), .val (.int (f 2))] [(.int (0 : Int32)), (.ref x0), (.int (1 : Int32)), (.ref x0)]))
          refine own_iaload X21 hx hZ e21 A21 (i := 0) (by decide) (by omega) (v := (.int (f 0))) rfl (hb hby d9_52) ?_
          show own_Fin _ _ _ _ _ _ _ (T21.setTop (mkF m 53 #[.val (.ref x0), .val (.int (0 : Int32)), .val (.int (3 : Int32)), .val (.int (0 : Int32)), .val (.int (2 : Int32)), .val (.int (f 2))] [(.int (f 0)), (.int (1 : Int32)), (.ref x0)]))
          refine own_iastore X21 hx hZ e21 A21 N21 ge (i := 1) (by decide) (by omega) (hb hby d9_53) ?_
          intro T23 h23 l23 X23 N23 e23 W23 A23
          replace A23 : own_Arf Z h23 x0 .int nw (fun j => if j = 1 then (.int (f 0)) else (fun j => if j = 2 then (.int (f 1)) else (fun j => .int (f j)) j) j) := A23
          have KW23 := KW21.wr W23 (Or.inl (List.mem_of_getElem? (i := 0) rfl))
          have ZW23 : n0 ≤ h23.size := by rw [Wr.size W23]; exact ZW21
          show own_Fin _ _ _ _ _ _ _ (T23.setTop (mkF m 54 #[.val (.ref x0), .val (.int (0 : Int32)), .val (.int (3 : Int32)), .val (.int (0 : Int32)), .val (.int (2 : Int32)), .val (.int (f 2))] []))
          refine own_of (fun _ kk => XS.goto X23.here hx rfl (pc0 := 54) (pc' := 30) rfl (hb hby d9_54) (by decide) (by decide) kk) ?_
          show own_Fin _ _ _ _ _ _ _ (T23.setTop (mkF m 30 #[.val (.ref x0), .val (.int (0 : Int32)), .val (.int (3 : Int32)), .val (.int (0 : Int32)), .val (.int (2 : Int32)), .val (.int (f 2))] []))
          refine own_of (fun _ kk => XS.iinc X23.here hx rfl (hb hby d9_30) rfl (l' := #[.val (.ref x0), .val (.int (0 : Int32)), .val (.int (3 : Int32)), .val (.int (-1 : Int32)), .val (.int (2 : Int32)), .val (.int (f 2))]) rfl kk) ?_
          show own_Fin _ _ _ _ _ _ _ (T23.setTop (mkF m 33 #[.val (.ref x0), .val (.int (0 : Int32)), .val (.int (3 : Int32)), .val (.int (-1 : Int32)), .val (.int (2 : Int32)), .val (.int (f 2))] []))
          refine own_of (fun _ kk => XS.iloadN X23.here hx rfl (hb hby d9_33) rfl kk) ?_
          show own_Fin _ _ _ _ _ _ _ (T23.setTop (mkF m 34 #[.val (.ref x0), .val (.int (0 : Int32)), .val (.int (3 : Int32)), .val (.int (-1 : Int32)), .val (.int (2 : Int32)), .val (.int (f 2))] [(.int (-1 : Int32))]))
          refine own_of (fun _ kk => XS.iloadN X23.here hx rfl (hb hby d9_34) rfl kk) ?_
          show own_Fin _ _ _ _ _ _ _ (T23.setTop (mkF m 35 #[.val (.ref x0), .val (.int (0 : Int32)), .val (.int (3 : Int32)), .val (.int (-1 : Int32)), .val (.int (2 : Int32)), .val (.int (f 2))] [(.int (0 : Int32)), (.int (-1 : Int32))]))
          refine own_of (fun _ kk => XS.icmpYes X23.here hx rfl (pc0 := 35) (pc' := 57) rfl (hb hby d9_35) rfl (tlt (by decide : ((-1 : Int32) < (0 : Int32)))).1 (by decide) (by decide) kk) ?_
          show own_Fin _ _ _ _ _ _ _ (T23.setTop (mkF m 57 #[.val (.ref x0), .val (.int (0 : Int32)), .val (.int (3 : Int32)), .val (.int (-1 : Int32)), .val (.int (2 : Int32)), .val (.int (f 2))] []))
          refine own_of (fun _ kk => XS.aloadN X23.here hx rfl (hb hby d9_57) rfl rfl kk) ?_
          show own_Fin _ _ _ _ _ _ _ (T23.setTop (mkF m 58 #[.val (.ref x0), .val (.int (0 : Int32)), .val (.int (3 : Int32)), .val (.int (-1 : Int32)), .val (.int (2 : Int32)), .val (.int (f 2))] [(.ref x0)]))
          refine own_of (fun _ kk => XS.iloadN X23.here hx rfl (hb hby d9_58) rfl kk) ?_
          show own_Fin _ _ _ _ _ _ _ (T23.setTop (mkF m 59 #[.val (.ref x0), .val (.int (0 : Int32)), .val (.int (3 : Int32)), .val (.int (-1 : Int32)), .val (.int (2 : Int32)), .val (.int (f 2))] [(.int (-1 : Int32)), (.ref x0)]))
          refine own_of (fun _ kk => XS.iconst X23.here hx rfl (hb hby d9_59) kk) ?_
          show own_Fin _ _ _ _ _ _ _ (T23.setTop (mkF m 60 #[.val (.ref x0), .val (.int (0 : Int32)), .val (.int (3 : Int32)), .val (.int (-1 : Int32)), .val (.int (2 : Int32)), .val (.int (f 2))] [(.int (1 : Int32)), (.int (-1 : Int32)), (.ref x0)]))
          refine own_of (fun _ kk => XS.iadd X23.here hx rfl (hb hby d9_60) rfl kk) ?_
          show own_Fin _ _ _ _ _ _ _ (T23.setTop (mkF m 61 #[.val (.ref x0), .val (.int (0 : Int32)), .val (.int (3 : Int32)), .val (.int (-1 : Int32)), .val (.int (2 : Int32)), .val (.int (f 2))] [(.int (0 : Int32)), (.ref x0)]))
          refine own_of (fun _ kk => XS.iload X23.here hx rfl (hb hby d9_61) rfl kk) ?_
          show own_Fin _ _ _ _ _ _ _ (T23.setTop (mkF m 63 #[.val (.ref x0), .val (.int (0 : Int32)), .val (.int (3 : Int32)), .val (.int (-1 : Int32)), .val (.int (2 : Int32)), .val (.int (f 2))] [(.int (f 2)), (.int (0 : Int32)), (.ref x0)]))
          refine own_iastore X23 hx hZ e23 A23 N23 ge (i := 0) (by decide) (by omega) (hb hby d9_63) ?_
          intro T24 h24 l24 X24 N24 e24 W24 A24
          replace A24 : own_Arf Z h24 x0 .int nw (fun j => if j = 0 then (.int (f 2)) else (fun j => if j = 1 then (.int (f 0)) else (fun j => if j = 2 then (.int (f 1)) else (fun j => .int (f j)) j) j) j) := A24
          have KW24 := KW23.wr W24 (Or.inl (List.mem_of_getElem? (i := 0) rfl))
          have ZW24 : n0 ≤ h24.size := by rw [Wr.size W24]; exact ZW23
          show own_Fin _ _ _ _ _ _ _ (T24.setTop (mkF m 64 #[.val (.ref x0), .val (.int (0 : Int32)), .val (.int (3 : Int32)), .val (.int (-1 : Int32)), .val (.int (2 : Int32)), .val (.int (f 2))] []))
          refine own_of (fun _ kk => XS.goto X24.here hx rfl (pc0 := 64) (pc' := 3) rfl (hb hby d9_64) (by decide) (by decide) kk) ?_
          show own_Fin _ _ _ _ _ _ _ (T24.setTop (mkF m 3 #[.val (.ref x0), .val (.int (0 : Int32)), .val (.int (3 : Int32)), .val (.int (-1 : Int32)), .val (.int (2 : Int32)), .val (.int (f 2))] []))
          refine own_of (fun _ kk => XS.iinc X24.here hx rfl (hb hby d9_3) rfl (l' := #[.val (.ref x0), .val (.int (0 : Int32)), .val (.int (3 : Int32)), .val (.int (-1 : Int32)), .val (.int (3 : Int32)), .val (.int (f 2))]) rfl kk) ?_
          show own_Fin _ _ _ _ _ _ _ (T24.setTop (mkF m 6 #[.val (.ref x0), .val (.int (0 : Int32)), .val (.int (3 : Int32)), .val (.int (-1 : Int32)), .val (.int (3 : Int32)), .val (.int (f 2))] []))
          refine own_of (fun _ kk => XS.iload X24.here hx rfl (hb hby d9_6) rfl kk) ?_
          show own_Fin _ _ _ _ _ _ _ (T24.setTop (mkF m 8 #[.val (.ref x0), .val (.int (0 : Int32)), .val (.int (3 : Int32)), .val (.int (-1 : Int32)), .val (.int (3 : Int32)), .val (.int (f 2))] [(.int (3 : Int32))]))
          refine own_of (fun _ kk => XS.iloadN X24.here hx rfl (hb hby d9_8) rfl kk) ?_
          show own_Fin _ _ _ _ _ _ _ (T24.setTop (mkF m 9 #[.val (.ref x0), .val (.int (0 : Int32)), .val (.int (3 : Int32)), .val (.int (-1 : Int32)), .val (.int (3 : Int32)), .val (.int (f 2))] [(.int (3 : Int32)), (.int (3 : Int32))]))
          refine own_of (fun _ kk => XS.icmpYes X24.here hx rfl (pc0 := 9) (pc' := 67) rfl (hb hby d9_9) rfl (flt (by decide : ¬ ((3 : Int32) < (3 : Int32)))).2.1 (by decide) (by decide) kk) ?_
          show own_Fin _ _ _ _ _ _ _ (T24.setTop (mkF m 67 #[.val (.ref x0), .val (.int (0 : Int32)), .val (.int (3 : Int32)), .val (.int (-1 : Int32)), .val (.int (3 : Int32)), .val (.int (f 2))] []))
          exact own_retV X24 hx hlk e24 hret (hb hby d9_67) (by decide) (by decide) ⟨rfl, N24, ZW24, own_tri (f 2) (f 0) (f 1) f, (A24.congr fun j _ => own_tris (F := (fun j => if j = 0 then (.int (f 2)) else (fun j => if j = 1 then (.int (f 0)) else (fun j => if j = 2 then (.int (f 1)) else (fun j => .int (f j)) j) j) j)) (X := (f 2)) (Y := (f 0)) (W := (f 1)) (f := f) rfl rfl rfl (fun j hj => by first | rfl | (dsimp only; (repeat' split) <;> first | (exfalso; omega) | rfl)) j), KW24, own_perm3 f _ _ _ (fun v => by constructor <;> (rintro (h | h | h) <;> simp [h])) (by simp only [Int32.lt_iff_toInt_lt] at *; omega) (by simp only [Int32.lt_iff_toInt_lt] at *; omega)⟩
        · refine own_of (fun _ kk => XS.icmpYes X21.here hx rfl (pc0 := 43) (pc' := 57) rfl (hb hby d9_43) rfl (flt c43_22).2.1 (by decide) (by decide) kk) ?_
          show own_Fin _ _ _ _ _ _ _ (T21.setTop (mkF m 57 #[.val (.ref x0), .val (.int (0 : Int32)), .val (.int (3 : Int32)), .val (.int (0 : Int32)), .val (.int (2 : Int32)), .val (.int (f 2))] []))
          refine own_of (fun _ kk => XS.aloadN X21.here hx rfl (hb hby d9_57) rfl rfl kk) ?_
          show own_Fin _ _ _ _ _ _ _ (T21.setTop (mkF m 58 #[.val (.ref x0), .val (.int (0 : Int32)), .val (.int (3 : Int32)), .val (.int (0 : Int32)), .val (.int (2 : Int32)), .val (.int (f 2))] [(.ref x0)]))
          refine own_of (fun _ kk => XS.iloadN X21.here hx rfl (hb hby d9_58) rfl kk) ?_
          show own_Fin _ _ _ _ _ _ _ (T21.setTop (mkF m 59 #[.val (.ref x0), .val (.int (0 : Int32)), .val (.int (3 : Int32)), .val (.int (0 : Int32)), .val (.int (2 : Int32)), .val (.int (f 2))] [(.int (0 : Int32)), (.ref x0)]))
          refine own_of (fun _ kk => XS.iconst X21.here hx rfl (hb hby d9_59) kk) ?_
          show own_Fin _ _ _ _ _ _ _ (T21.setTop (mkF m 60 #[.val (.ref x0), .val (.int (0 : Int32)), .val (.int (3 : Int32)), .val (.int (0 : Int32)), .val (.int (2 : Int32)), .val (.int (f 2))] [(.int (1 : Int32)), (.int (0 : Int32)), (.ref x0)]))
          refine own_of (fun _ kk => XS.iadd X21.here hx rfl (hb hby d9_60) rfl kk) ?_
          show own_Fin _ _ _ _ _ _ _ (T21.setTop (mkF m 61 #[.val (.ref x0), .val (.int (0 : Int32)), .val (.int (3 : Int32)), .val (.int (0 : Int32)), .val (.int (2 : Int32)), .val (.int (f 2))] [(.int (1 : Int32)), (.ref x0)]))
          refine own_of (fun _ kk => XS.iload X21.here hx rfl (hb hby d9_61) rfl kk) ?_
          show own_Fin _ _ _ _ _ _ _ (T21.setTop (mkF m 63 #[.val (.ref x0), .val (.int (0 : Int32)), .val (.int (3 : Int32)), .val (.int (0 : Int32)), .val (.int (2 : Int32)), .val (.int (f 2))] [(.int (f 2)), (.int (1 : Int32)), (.ref x0)]))
          refine own_iastore X21 hx hZ e21 A21 N21 ge (i := 1) (by decide) (by omega) (hb hby d9_63) ?_
          intro T25 h25 l25 X25 N25 e25 W25 A25
          replace A25 : own_Arf Z h25 x0 .int nw (fun j => if j = 1 then (.int (f 2)) else (fun j => if j = 2 then (.int (f 1)) else (fun j => .int (f j)) j) j) := A25
          have KW25 := KW21.wr W25 (Or.inl (List.mem_of_getElem? (i := 0) rfl))
          have ZW25 : n0 ≤ h25.size := by rw [Wr.size W25]; exact ZW21
          show own_Fin _ _ _ _ _ _ _ (T25.setTop (mkF m 64 #[.val (.ref x0), .val (.int (0 : Int32)), .val (.int (3 : Int32)), .val (.int (0 : Int32)), .val (.int (2 : Int32)), .val (.int (f 2))] []))
          refine own_of (fun _ kk => XS.goto X25.here hx rfl (pc0 := 64) (pc' := 3) rfl (hb hby d9_64) (by decide) (by decide) kk) ?_
          show own_Fin _ _ _ _ _ _ _ (T25.setTop (mkF m 3 #[.val (.ref x0), .val (.int (0 : Int32)), .val (.int (3 : Int32)), .val (.int (0 : Int32)), .val (.int (2 : Int32)), .val (.int (f 2))] []))
          refine own_of (fun _ kk => XS.iinc X25.here hx rfl (hb hby d9_3) rfl (l' := #[.val (.ref x0), .val (.int (0 : Int32)), .val (.int (3 : Int32)), .val (.int (0 : Int32)), .val (.int (3 : Int32)), .val (.int (f 2))]) rfl kk) ?_
          show own_Fin _ _ _ _ _ _ _ (T25.setTop (mkF m 6 #[.val (.ref x0), .val (.int (0 : Int32)), .val (.int (3 : Int32)), .val (.int (0 : Int32)), .val (.int (3 : Int32)), .val (.int (f 2))] []))
          refine own_of (fun _ kk => XS.iload X25.here hx rfl (hb hby d9_6) rfl kk) ?_
          show own_Fin _ _ _ _ _ _ _ (T25.setTop (mkF m 8 #[.val (.ref x0), .val (.int (0 : Int32)), .val (.int (3 : Int32)), .val (.int (0 : Int32)), .val (.int (3 : Int32)), .val (.int (f 2))] [(.int (3 : Int32))]))
          refine own_of (fun _ kk => XS.iloadN X25.here hx rfl (hb hby d9_8) rfl kk) ?_
          show own_Fin _ _ _ _ _ _ _ (T25.setTop (mkF m 9 #[.val (.ref x0), .val (.int (0 : Int32)), .val (.int (3 : Int32)), .val (.int (0 : Int32)), .val (.int (3 : Int32)), .val (.int (f 2))] [(.int (3 : Int32)), (.int (3 : Int32))]))
          refine own_of (fun _ kk => XS.icmpYes X25.here hx rfl (pc0 := 9) (pc' := 67) rfl (hb hby d9_9) rfl (flt (by decide : ¬ ((3 : Int32) < (3 : Int32)))).2.1 (by decide) (by decide) kk) ?_
          show own_Fin _ _ _ _ _ _ _ (T25.setTop (mkF m 67 #[.val (.ref x0), .val (.int (0 : Int32)), .val (.int (3 : Int32)), .val (.int (0 : Int32)), .val (.int (3 : Int32)), .val (.int (f 2))] []))
          exact own_retV X25 hx hlk e25 hret (hb hby d9_67) (by decide) (by decide) ⟨rfl, N25, ZW25, own_tri (f 0) (f 2) (f 1) f, (A25.congr fun j _ => own_tris (F := (fun j => if j = 1 then (.int (f 2)) else (fun j => if j = 2 then (.int (f 1)) else (fun j => .int (f j)) j) j)) (X := (f 0)) (Y := (f 2)) (W := (f 1)) (f := f) rfl rfl rfl (fun j hj => by first | rfl | (dsimp only; (repeat' split) <;> first | (exfalso; omega) | rfl)) j), KW25, own_perm3 f _ _ _ (fun v => by constructor <;> (rintro (h | h | h) <;> simp [h])) (by simp only [Int32.lt_iff_toInt_lt] at *; omega) (by simp only [Int32.lt_iff_toInt_lt] at *; omega)⟩
      · refine own_of (fun _ kk => XS.icmpYes X0.here hx rfl (pc0 := 43) (pc' := 57) rfl (hb hby d9_43) rfl (flt c43).2.1 (by decide) (by decide) kk) ?_
        show own_Fin _ _ _ _ _ _ _ (T0.setTop (mkF m 57 #[.val (.ref x0), .val (.int (0 : Int32)), .val (.int (3 : Int32)), .val (.int (1 : Int32)), .val (.int (2 : Int32)), .val (.int (f 2))] []))
        refine own_of (fun _ kk => XS.aloadN X0.here hx rfl (hb hby d9_57) rfl rfl kk) ?_
        show own_Fin _ _ _ _ _ _ _ (T0.setTop (mkF m 58 #[.val (.ref x0), .val (.int (0 : Int32)), .val (.int (3 : Int32)), .val (.int (1 : Int32)), .val (.int (2 : Int32)), .val (.int (f 2))] [(.ref x0)]))
        refine own_of (fun _ kk => XS.iloadN X0.here hx rfl (hb hby d9_58) rfl kk) ?_
        show own_Fin _ _ _ _ _ _ _ (T0.setTop (mkF m 59 #[.val (.ref x0), .val (.int (0 : Int32)), .val (.int (3 : Int32)), .val (.int (1 : Int32)), .val (.int (2 : Int32)), .val (.int (f 2))] [(.int (1 : Int32)), (.ref x0)]))
        refine own_of (fun _ kk => XS.iconst X0.here hx rfl (hb hby d9_59) kk) ?_
        show own_Fin _ _ _ _ _ _ _ (T0.setTop (mkF m 60 #[.val (.ref x0), .val (.int (0 : Int32)), .val (.int (3 : Int32)), .val (.int (1 : Int32)), .val (.int (2 : Int32)), .val (.int (f 2))] [(.int (1 : Int32)), (.int (1 : Int32)), (.ref x0)]))
        refine own_of (fun _ kk => XS.iadd X0.here hx rfl (hb hby d9_60) rfl kk) ?_
        show own_Fin _ _ _ _ _ _ _ (T0.setTop (mkF m 61 #[.val (.ref x0), .val (.int (0 : Int32)), .val (.int (3 : Int32)), .val (.int (1 : Int32)), .val (.int (2 : Int32)), .val (.int (f 2))] [(.int (2 : Int32)), (.ref x0)]))
        refine own_of (fun _ kk => XS.iload X0.here hx rfl (hb hby d9_61) rfl kk) ?_
        show own_Fin _ _ _ _ _ _ _ (T0.setTop (mkF m 63 #[.val (.ref x0), .val (.int (0 : Int32)), .val (.int (3 : Int32)), .val (.int (1 : Int32)), .val (.int (2 : Int32)), .val (.int (f 2))] [(.int (f 2)), (.int (2 : Int32)), (.ref x0)]))
        refine own_iastore X0 hx hZ e0 A N0 ge (i := 2) (by decide) (by omega) (hb hby d9_63) ?_
        intro T26 h26 l26 X26 N26 e26 W26 A26
        replace A26 : own_Arf Z h26 x0 .int nw (fun j => if j = 2 then (.int (f 2)) else (fun j => .int (f j)) j) := A26
        have KW26 := K.wr W26 (Or.inl (List.mem_of_getElem? (i := 0) rfl))
        have ZW26 : n0 ≤ h26.size := by rw [Wr.size W26]; exact Z0
        show own_Fin _ _ _ _ _ _ _ (T26.setTop (mkF m 64 #[.val (.ref x0), .val (.int (0 : Int32)), .val (.int (3 : Int32)), .val (.int (1 : Int32)), .val (.int (2 : Int32)), .val (.int (f 2))] []))
        refine own_of (fun _ kk => XS.goto X26.here hx rfl (pc0 := 64) (pc' := 3) rfl (hb hby d9_64) (by decide) (by decide) kk) ?_
        show own_Fin _ _ _ _ _ _ _ (T26.setTop (mkF m 3 #[.val (.ref x0), .val (.int (0 : Int32)), .val (.int (3 : Int32)), .val (.int (1 : Int32)), .val (.int (2 : Int32)), .val (.int (f 2))] []))
        refine own_of (fun _ kk => XS.iinc X26.here hx rfl (hb hby d9_3) rfl (l' := #[.val (.ref x0), .val (.int (0 : Int32)), .val (.int (3 : Int32)), .val (.int (1 : Int32)), .val (.int (3 : Int32)), .val (.int (f 2))]) rfl kk) ?_
        show own_Fin _ _ _ _ _ _ _ (T26.setTop (mkF m 6 #[.val (.ref x0), .val (.int (0 : Int32)), .val (.int (3 : Int32)), .val (.int (1 : Int32)), .val (.int (3 : Int32)), .val (.int (f 2))] []))
        refine own_of (fun _ kk => XS.iload X26.here hx rfl (hb hby d9_6) rfl kk) ?_
        show own_Fin _ _ _ _ _ _ _ (T26.setTop (mkF m 8 #[.val (.ref x0), .val (.int (0 : Int32)), .val (.int (3 : Int32)), .val (.int (1 : Int32)), .val (.int (3 : Int32)), .val (.int (f 2))] [(.int (3 : Int32))]))
        refine own_of (fun _ kk => XS.iloadN X26.here hx rfl (hb hby d9_8) rfl kk) ?_
        show own_Fin _ _ _ _ _ _ _ (T26.setTop (mkF m 9 #[.val (.ref x0), .val (.int (0 : Int32)), .val (.int (3 : Int32)), .val (.int (1 : Int32)), .val (.int (3 : Int32)), .val (.int (f 2))] [(.int (3 : Int32)), (.int (3 : Int32))]))
        refine own_of (fun _ kk => XS.icmpYes X26.here hx rfl (pc0 := 9) (pc' := 67) rfl (hb hby d9_9) rfl (flt (by decide : ¬ ((3 : Int32) < (3 : Int32)))).2.1 (by decide) (by decide) kk) ?_
        show own_Fin _ _ _ _ _ _ _ (T26.setTop (mkF m 67 #[.val (.ref x0), .val (.int (0 : Int32)), .val (.int (3 : Int32)), .val (.int (1 : Int32)), .val (.int (3 : Int32)), .val (.int (f 2))] []))
        exact own_retV X26 hx hlk e26 hret (hb hby d9_67) (by decide) (by decide) ⟨rfl, N26, ZW26, own_tri (f 0) (f 1) (f 2) f, (A26.congr fun j _ => own_tris (F := (fun j => if j = 2 then (.int (f 2)) else (fun j => .int (f j)) j)) (X := (f 0)) (Y := (f 1)) (W := (f 2)) (f := f) rfl rfl rfl (fun j hj => by first | rfl | (dsimp only; (repeat' split) <;> first | (exfalso; omega) | rfl)) j), KW26, own_perm3 f _ _ _ (fun v => by constructor <;> (rintro (h | h | h) <;> simp [h])) (by simp only [Int32.lt_iff_toInt_lt] at *; omega) (by simp only [Int32.lt_iff_toInt_lt] at *; omega)⟩
    · refine own_of (fun _ kk => XS.icmpYes X0.here hx rfl (pc0 := 27) (pc' := 64) rfl (hb hby d9_27) rfl (flt c27_20).2.1 (by decide) (by decide) kk) ?_
      show own_Fin _ _ _ _ _ _ _ (T0.setTop (mkF m 64 #[.val (.ref x0), .val (.int (0 : Int32)), .val (.int (3 : Int32)), .val (.int (2 : Int32)), .val (.int (2 : Int32)), .val (.int (f 2))] []))
      refine own_of (fun _ kk => XS.goto X0.here hx rfl (pc0 := 64) (pc' := 3) rfl (hb hby d9_64) (by decide) (by decide) kk) ?_
      show own_Fin _ _ _ _ _ _ _ (T0.setTop (mkF m 3 #[.val (.ref x0), .val (.int (0 : Int32)), .val (.int (3 : Int32)), .val (.int (2 : Int32)), .val (.int (2 : Int32)), .val (.int (f 2))] []))
      refine own_of (fun _ kk => XS.iinc X0.here hx rfl (hb hby d9_3) rfl (l' := #[.val (.ref x0), .val (.int (0 : Int32)), .val (.int (3 : Int32)), .val (.int (2 : Int32)), .val (.int (3 : Int32)), .val (.int (f 2))]) rfl kk) ?_
      show own_Fin _ _ _ _ _ _ _ (T0.setTop (mkF m 6 #[.val (.ref x0), .val (.int (0 : Int32)), .val (.int (3 : Int32)), .val (.int (2 : Int32)), .val (.int (3 : Int32)), .val (.int (f 2))] []))
      refine own_of (fun _ kk => XS.iload X0.here hx rfl (hb hby d9_6) rfl kk) ?_
      show own_Fin _ _ _ _ _ _ _ (T0.setTop (mkF m 8 #[.val (.ref x0), .val (.int (0 : Int32)), .val (.int (3 : Int32)), .val (.int (2 : Int32)), .val (.int (3 : Int32)), .val (.int (f 2))] [(.int (3 : Int32))]))
      refine own_of (fun _ kk => XS.iloadN X0.here hx rfl (hb hby d9_8) rfl kk) ?_
      show own_Fin _ _ _ _ _ _ _ (T0.setTop (mkF m 9 #[.val (.ref x0), .val (.int (0 : Int32)), .val (.int (3 : Int32)), .val (.int (2 : Int32)), .val (.int (3 : Int32)), .val (.int (f 2))] [(.int (3 : Int32)), (.int (3 : Int32))]))
      refine own_of (fun _ kk => XS.icmpYes X0.here hx rfl (pc0 := 9) (pc' := 67) rfl (hb hby d9_9) rfl (flt (by decide : ¬ ((3 : Int32) < (3 : Int32)))).2.1 (by decide) (by decide) kk) ?_
      show own_Fin _ _ _ _ _ _ _ (T0.setTop (mkF m 67 #[.val (.ref x0), .val (.int (0 : Int32)), .val (.int (3 : Int32)), .val (.int (2 : Int32)), .val (.int (3 : Int32)), .val (.int (f 2))] []))
      exact own_retV X0 hx hlk e0 hret (hb hby d9_67) (by decide) (by decide) ⟨rfl, N0, Z0, own_tri (f 0) (f 1) (f 2) f, (A.congr fun j _ => own_tris (F := (fun j => .int (f j))) (X := (f 0)) (Y := (f 1)) (W := (f 2)) (f := f) rfl rfl rfl (fun j hj => by first | rfl | (dsimp only; (repeat' split) <;> first | (exfalso; omega) | rfl)) j), K, own_perm3 f _ _ _ (fun v => by constructor <;> (rintro (h | h | h) <;> simp [h])) (by simp only [Int32.lt_iff_toInt_lt] at *; omega) (by simp only [Int32.lt_iff_toInt_lt] at *; omega)⟩
set_option maxRecDepth 65536 in
set_option maxHeartbeats 40000000 in
theorem met8_1 (l : Launch) (Z : State) (a0 : Array Value) (hw : ∀ d ∈ tables_1, d.before a0 Z = true) (x1 : Addr) (x2 : Int32) (x3 : Int32) (x4 : Int32) (nw : Nat) (f : Nat → Int32) (h0 : Heap) (n0 : Nat) (Z0 : n0 ≤ h0.size) (hq0 : x2 = 0) (hq1 : x3 = 0) (hq2 : x4 = 1) (A : own_Arf Z h0 x1 .int nw (fun j => .int (f j))) (ge : n0 ≤ x1) (hnw : 1 ≤ nw) :
    own_Met l Z (⟨"java/util/DualPivotQuicksort", "sort", "(Ljava/util/DualPivotQuicksort$Sorter;[IIII)V"⟩ : MethodName) jdk_2529_method_4_code 21 none { frames := 1, cells := 0, slots := 0, locals := 17 } #[.null, (.ref x1), (.int x2), (.int x3), (.int x4)] h0 (fun v h L => v = none ∧ Fr n0 L ∧ n0 ≤ h.size ∧ ∃ g : Nat → Int32, own_Arf Z h x1 .int nw (fun j => .int (g j)) ∧ Keep h0 h [x1] ∧ own_Perm 1 f g) := by
  refine own_met pn_8 ?_
  intro p e s m below meth c T0 X0 hx hby hml hown hZ e0 hret hlk hnm
  rw [ef_8 m x1 x2 x3 x4]
  have N0 := Fr.nil n0
  subst hq0 hq1 hq2
  show own_Fin _ _ _ _ _ _ _ (T0.setTop (mkF m 0 #[.val .null, .val (.ref x1), .val (.int (0 : Int32)), .val (.int (0 : Int32)), .val (.int (1 : Int32)), .unset, .unset, .unset, .unset, .unset, .unset, .unset, .unset, .unset, .unset, .unset, .unset, .unset, .unset, .unset, .unset] []))
  refine own_of (fun _ kk => XS.iload X0.here hx rfl (hb hby d8_0) rfl kk) ?_
  show own_Fin _ _ _ _ _ _ _ (T0.setTop (mkF m 2 #[.val .null, .val (.ref x1), .val (.int (0 : Int32)), .val (.int (0 : Int32)), .val (.int (1 : Int32)), .unset, .unset, .unset, .unset, .unset, .unset, .unset, .unset, .unset, .unset, .unset, .unset, .unset, .unset, .unset, .unset] [(.int (1 : Int32))]))
  refine own_of (fun _ kk => XS.iconst X0.here hx rfl (hb hby d8_2) kk) ?_
  show own_Fin _ _ _ _ _ _ _ (T0.setTop (mkF m 3 #[.val .null, .val (.ref x1), .val (.int (0 : Int32)), .val (.int (0 : Int32)), .val (.int (1 : Int32)), .unset, .unset, .unset, .unset, .unset, .unset, .unset, .unset, .unset, .unset, .unset, .unset, .unset, .unset, .unset, .unset] [(.int (1 : Int32)), (.int (1 : Int32))]))
  refine own_of (fun _ kk => XS.isub X0.here hx rfl (hb hby d8_3) rfl kk) ?_
  show own_Fin _ _ _ _ _ _ _ (T0.setTop (mkF m 4 #[.val .null, .val (.ref x1), .val (.int (0 : Int32)), .val (.int (0 : Int32)), .val (.int (1 : Int32)), .unset, .unset, .unset, .unset, .unset, .unset, .unset, .unset, .unset, .unset, .unset, .unset, .unset, .unset, .unset, .unset] [(.int (0 : Int32))]))
  refine own_of (fun _ kk => XS.istore X0.here hx rfl (hb hby d8_4) rfl (l' := #[.val .null, .val (.ref x1), .val (.int (0 : Int32)), .val (.int (0 : Int32)), .val (.int (1 : Int32)), .val (.int (0 : Int32)), .unset, .unset, .unset, .unset, .unset, .unset, .unset, .unset, .unset, .unset, .unset, .unset, .unset, .unset, .unset]) rfl kk) ?_
  show own_Fin _ _ _ _ _ _ _ (T0.setTop (mkF m 6 #[.val .null, .val (.ref x1), .val (.int (0 : Int32)), .val (.int (0 : Int32)), .val (.int (1 : Int32)), .val (.int (0 : Int32)), .unset, .unset, .unset, .unset, .unset, .unset, .unset, .unset, .unset, .unset, .unset, .unset, .unset, .unset, .unset] []))
  refine own_of (fun _ kk => XS.iload X0.here hx rfl (hb hby d8_6) rfl kk) ?_
  show own_Fin _ _ _ _ _ _ _ (T0.setTop (mkF m 8 #[.val .null, .val (.ref x1), .val (.int (0 : Int32)), .val (.int (0 : Int32)), .val (.int (1 : Int32)), .val (.int (0 : Int32)), .unset, .unset, .unset, .unset, .unset, .unset, .unset, .unset, .unset, .unset, .unset, .unset, .unset, .unset, .unset] [(.int (1 : Int32))]))
  refine own_of (fun _ kk => XS.iloadN X0.here hx rfl (hb hby d8_8) rfl kk) ?_
  show own_Fin _ _ _ _ _ _ _ (T0.setTop (mkF m 9 #[.val .null, .val (.ref x1), .val (.int (0 : Int32)), .val (.int (0 : Int32)), .val (.int (1 : Int32)), .val (.int (0 : Int32)), .unset, .unset, .unset, .unset, .unset, .unset, .unset, .unset, .unset, .unset, .unset, .unset, .unset, .unset, .unset] [(.int (0 : Int32)), (.int (1 : Int32))]))
  refine own_of (fun _ kk => XS.isub X0.here hx rfl (hb hby d8_9) rfl kk) ?_
  show own_Fin _ _ _ _ _ _ _ (T0.setTop (mkF m 10 #[.val .null, .val (.ref x1), .val (.int (0 : Int32)), .val (.int (0 : Int32)), .val (.int (1 : Int32)), .val (.int (0 : Int32)), .unset, .unset, .unset, .unset, .unset, .unset, .unset, .unset, .unset, .unset, .unset, .unset, .unset, .unset, .unset] [(.int (1 : Int32))]))
  refine own_of (fun _ kk => XS.istore X0.here hx rfl (hb hby d8_10) rfl (l' := #[.val .null, .val (.ref x1), .val (.int (0 : Int32)), .val (.int (0 : Int32)), .val (.int (1 : Int32)), .val (.int (0 : Int32)), .val (.int (1 : Int32)), .unset, .unset, .unset, .unset, .unset, .unset, .unset, .unset, .unset, .unset, .unset, .unset, .unset, .unset]) rfl kk) ?_
  show own_Fin _ _ _ _ _ _ _ (T0.setTop (mkF m 12 #[.val .null, .val (.ref x1), .val (.int (0 : Int32)), .val (.int (0 : Int32)), .val (.int (1 : Int32)), .val (.int (0 : Int32)), .val (.int (1 : Int32)), .unset, .unset, .unset, .unset, .unset, .unset, .unset, .unset, .unset, .unset, .unset, .unset, .unset, .unset] []))
  refine own_of (fun _ kk => XS.iload X0.here hx rfl (hb hby d8_12) rfl kk) ?_
  show own_Fin _ _ _ _ _ _ _ (T0.setTop (mkF m 14 #[.val .null, .val (.ref x1), .val (.int (0 : Int32)), .val (.int (0 : Int32)), .val (.int (1 : Int32)), .val (.int (0 : Int32)), .val (.int (1 : Int32)), .unset, .unset, .unset, .unset, .unset, .unset, .unset, .unset, .unset, .unset, .unset, .unset, .unset, .unset] [(.int (1 : Int32))]))
  refine own_of (fun _ kk => XS.bipush X0.here hx rfl (hb hby d8_14) kk) ?_
  show own_Fin _ _ _ _ _ _ _ (T0.setTop (mkF m 16 #[.val .null, .val (.ref x1), .val (.int (0 : Int32)), .val (.int (0 : Int32)), .val (.int (1 : Int32)), .val (.int (0 : Int32)), .val (.int (1 : Int32)), .unset, .unset, .unset, .unset, .unset, .unset, .unset, .unset, .unset, .unset, .unset, .unset, .unset, .unset] [(.int (65 : Int32)), (.int (1 : Int32))]))
  refine own_of (fun _ kk => XS.iloadN X0.here hx rfl (hb hby d8_16) rfl kk) ?_
  show own_Fin _ _ _ _ _ _ _ (T0.setTop (mkF m 17 #[.val .null, .val (.ref x1), .val (.int (0 : Int32)), .val (.int (0 : Int32)), .val (.int (1 : Int32)), .val (.int (0 : Int32)), .val (.int (1 : Int32)), .unset, .unset, .unset, .unset, .unset, .unset, .unset, .unset, .unset, .unset, .unset, .unset, .unset, .unset] [(.int (0 : Int32)), (.int (65 : Int32)), (.int (1 : Int32))]))
  refine own_of (fun _ kk => XS.iadd X0.here hx rfl (hb hby d8_17) rfl kk) ?_
  show own_Fin _ _ _ _ _ _ _ (T0.setTop (mkF m 18 #[.val .null, .val (.ref x1), .val (.int (0 : Int32)), .val (.int (0 : Int32)), .val (.int (1 : Int32)), .val (.int (0 : Int32)), .val (.int (1 : Int32)), .unset, .unset, .unset, .unset, .unset, .unset, .unset, .unset, .unset, .unset, .unset, .unset, .unset, .unset] [(.int (65 : Int32)), (.int (1 : Int32))]))
  refine own_of (fun _ kk => XS.icmpNo X0.here hx rfl (hb hby d8_18) rfl (tlt (by decide : ((1 : Int32) < (65 : Int32)))).2.1 kk) ?_
  show own_Fin _ _ _ _ _ _ _ (T0.setTop (mkF m 21 #[.val .null, .val (.ref x1), .val (.int (0 : Int32)), .val (.int (0 : Int32)), .val (.int (1 : Int32)), .val (.int (0 : Int32)), .val (.int (1 : Int32)), .unset, .unset, .unset, .unset, .unset, .unset, .unset, .unset, .unset, .unset, .unset, .unset, .unset, .unset] []))
  refine own_of (fun _ kk => XS.iloadN X0.here hx rfl (hb hby d8_21) rfl kk) ?_
  show own_Fin _ _ _ _ _ _ _ (T0.setTop (mkF m 22 #[.val .null, .val (.ref x1), .val (.int (0 : Int32)), .val (.int (0 : Int32)), .val (.int (1 : Int32)), .val (.int (0 : Int32)), .val (.int (1 : Int32)), .unset, .unset, .unset, .unset, .unset, .unset, .unset, .unset, .unset, .unset, .unset, .unset, .unset, .unset] [(.int (0 : Int32))]))
  refine own_of (fun _ kk => XS.iconst X0.here hx rfl (hb hby d8_22) kk) ?_
  show own_Fin _ _ _ _ _ _ _ (T0.setTop (mkF m 23 #[.val .null, .val (.ref x1), .val (.int (0 : Int32)), .val (.int (0 : Int32)), .val (.int (1 : Int32)), .val (.int (0 : Int32)), .val (.int (1 : Int32)), .unset, .unset, .unset, .unset, .unset, .unset, .unset, .unset, .unset, .unset, .unset, .unset, .unset, .unset] [(.int (1 : Int32)), (.int (0 : Int32))]))
  refine own_of (fun _ kk => XS.iand X0.here hx rfl (hb hby d8_23) rfl kk) ?_
  show own_Fin _ _ _ _ _ _ _ (T0.setTop (mkF m 24 #[.val .null, .val (.ref x1), .val (.int (0 : Int32)), .val (.int (0 : Int32)), .val (.int (1 : Int32)), .val (.int (0 : Int32)), .val (.int (1 : Int32)), .unset, .unset, .unset, .unset, .unset, .unset, .unset, .unset, .unset, .unset, .unset, .unset, .unset, .unset] [(.int (0 : Int32))]))
  refine own_of (fun _ kk => XS.ifYes X0.here hx rfl (pc0 := 24) (pc' := 46) rfl (hb hby d8_24) rfl ((if0 _ _).trans (flt (by decide : ¬ ((0 : Int32) < (0 : Int32)))).2.2.2) (by decide) (by decide) kk) ?_
  show own_Fin _ _ _ _ _ _ _ (T0.setTop (mkF m 46 #[.val .null, .val (.ref x1), .val (.int (0 : Int32)), .val (.int (0 : Int32)), .val (.int (1 : Int32)), .val (.int (0 : Int32)), .val (.int (1 : Int32)), .unset, .unset, .unset, .unset, .unset, .unset, .unset, .unset, .unset, .unset, .unset, .unset, .unset, .unset] []))
  refine own_of (fun _ kk => XS.iload X0.here hx rfl (hb hby d8_46) rfl kk) ?_
  show own_Fin _ _ _ _ _ _ _ (T0.setTop (mkF m 48 #[.val .null, .val (.ref x1), .val (.int (0 : Int32)), .val (.int (0 : Int32)), .val (.int (1 : Int32)), .val (.int (0 : Int32)), .val (.int (1 : Int32)), .unset, .unset, .unset, .unset, .unset, .unset, .unset, .unset, .unset, .unset, .unset, .unset, .unset, .unset] [(.int (1 : Int32))]))
  refine own_of (fun _ kk => XS.bipush X0.here hx rfl (hb hby d8_48) kk) ?_
  show own_Fin _ _ _ _ _ _ _ (T0.setTop (mkF m 50 #[.val .null, .val (.ref x1), .val (.int (0 : Int32)), .val (.int (0 : Int32)), .val (.int (1 : Int32)), .val (.int (0 : Int32)), .val (.int (1 : Int32)), .unset, .unset, .unset, .unset, .unset, .unset, .unset, .unset, .unset, .unset, .unset, .unset, .unset, .unset] [(.int (44 : Int32)), (.int (1 : Int32))]))
  refine own_of (fun _ kk => XS.icmpNo X0.here hx rfl (hb hby d8_50) rfl (tlt (by decide : ((1 : Int32) < (44 : Int32)))).2.1 kk) ?_
  show own_Fin _ _ _ _ _ _ _ (T0.setTop (mkF m 53 #[.val .null, .val (.ref x1), .val (.int (0 : Int32)), .val (.int (0 : Int32)), .val (.int (1 : Int32)), .val (.int (0 : Int32)), .val (.int (1 : Int32)), .unset, .unset, .unset, .unset, .unset, .unset, .unset, .unset, .unset, .unset, .unset, .unset, .unset, .unset] []))
  refine own_of (fun _ kk => XS.aloadN X0.here hx rfl (hb hby d8_53) rfl rfl kk) ?_
  show own_Fin _ _ _ _ _ _ _ (T0.setTop (mkF m 54 #[.val .null, .val (.ref x1), .val (.int (0 : Int32)), .val (.int (0 : Int32)), .val (.int (1 : Int32)), .val (.int (0 : Int32)), .val (.int (1 : Int32)), .unset, .unset, .unset, .unset, .unset, .unset, .unset, .unset, .unset, .unset, .unset, .unset, .unset, .unset] [(.ref x1)]))
  refine own_of (fun _ kk => XS.iloadN X0.here hx rfl (hb hby d8_54) rfl kk) ?_
  show own_Fin _ _ _ _ _ _ _ (T0.setTop (mkF m 55 #[.val .null, .val (.ref x1), .val (.int (0 : Int32)), .val (.int (0 : Int32)), .val (.int (1 : Int32)), .val (.int (0 : Int32)), .val (.int (1 : Int32)), .unset, .unset, .unset, .unset, .unset, .unset, .unset, .unset, .unset, .unset, .unset, .unset, .unset, .unset] [(.int (0 : Int32)), (.ref x1)]))
  refine own_of (fun _ kk => XS.iload X0.here hx rfl (hb hby d8_55) rfl kk) ?_
  show own_Fin _ _ _ _ _ _ _ (T0.setTop (mkF m 57 #[.val .null, .val (.ref x1), .val (.int (0 : Int32)), .val (.int (0 : Int32)), .val (.int (1 : Int32)), .val (.int (0 : Int32)), .val (.int (1 : Int32)), .unset, .unset, .unset, .unset, .unset, .unset, .unset, .unset, .unset, .unset, .unset, .unset, .unset, .unset] [(.int (1 : Int32)), (.int (0 : Int32)), (.ref x1)]))
  refine own_callS X0 hx hZ hown (hw _ (List.mem_of_getElem? (i := 46) rfl)) (hw _ (List.mem_of_getElem? (i := 47) rfl)) (hw _ (List.mem_of_getElem? (i := 41) rfl)) (hw _ (List.mem_of_getElem? (i := 48) rfl)) (by decide) e0 (argsL := [(.ref x1), (.int (0 : Int32)), (.int (1 : Int32))]) (met9_1 l Z a0 hw x1 0 1 nw f h0 n0 Z0 rfl rfl A ge hnw) (W := 0) (by decide) (by decide) (by decide) (by decide) (by rw [hml]; rfl) pd_10 rfl (rest := []) rfl (Nat.le_of_eq rfl) (hb hby d8_57) ?_
  intro v1 T1 h1 L1 X1 e1 q1
  obtain ⟨rfl, N1q, Z1, g, A1, K1, P1⟩ := q1
  have N1 := Fr.app N0 N1q
  show own_Fin _ _ _ _ _ _ _ (T1.setTop (mkF m 60 #[.val .null, .val (.ref x1), .val (.int (0 : Int32)), .val (.int (0 : Int32)), .val (.int (1 : Int32)), .val (.int (0 : Int32)), .val (.int (1 : Int32)), .unset, .unset, .unset, .unset, .unset, .unset, .unset, .unset, .unset, .unset, .unset, .unset, .unset, .unset] []))
  exact own_retV X1 hx hlk e1 hret (hb hby d8_60) (by decide) (by decide) ⟨rfl, N1, Z1, g, A1, K1, P1⟩
set_option maxRecDepth 65536 in
set_option maxHeartbeats 40000000 in
theorem met7_1 (l : Launch) (Z : State) (a0 : Array Value) (hw : ∀ d ∈ tables_1, d.before a0 Z = true) (x0 : Addr) (x1 : Int32) (x2 : Int32) (x3 : Int32) (nw : Nat) (f : Nat → Int32) (h0 : Heap) (n0 : Nat) (Z0 : n0 ≤ h0.size) (hq0 : x1 = 0) (hq1 : x2 = 0) (hq2 : x3 = 1) (A : own_Arf Z h0 x0 .int nw (fun j => .int (f j))) (ge : n0 ≤ x0) (hnw : 1 ≤ nw) :
    own_Met l Z (⟨"java/util/DualPivotQuicksort", "sort", "([IIII)V"⟩ : MethodName) jdk_2529_method_3_code 7 none { frames := 2, cells := 0, slots := 0, locals := 49 } #[(.ref x0), (.int x1), (.int x2), (.int x3)] h0 (fun v h L => v = none ∧ Fr n0 L ∧ n0 ≤ h.size ∧ ∃ g : Nat → Int32, own_Arf Z h x0 .int nw (fun j => .int (g j)) ∧ Keep h0 h [x0] ∧ own_Perm 1 f g) := by
  refine own_met pn_7 ?_
  intro p e s m below meth c T0 X0 hx hby hml hown hZ e0 hret hlk hnm
  rw [ef_7 m x0 x1 x2 x3]
  have N0 := Fr.nil n0
  subst hq0 hq1 hq2
  show own_Fin _ _ _ _ _ _ _ (T0.setTop (mkF m 0 #[.val (.ref x0), .val (.int (0 : Int32)), .val (.int (0 : Int32)), .val (.int (1 : Int32)), .unset, .unset, .unset] []))
  refine own_of (fun _ kk => XS.iloadN X0.here hx rfl (hb hby d7_0) rfl kk) ?_
  show own_Fin _ _ _ _ _ _ _ (T0.setTop (mkF m 1 #[.val (.ref x0), .val (.int (0 : Int32)), .val (.int (0 : Int32)), .val (.int (1 : Int32)), .unset, .unset, .unset] [(.int (1 : Int32))]))
  refine own_of (fun _ kk => XS.iloadN X0.here hx rfl (hb hby d7_1) rfl kk) ?_
  show own_Fin _ _ _ _ _ _ _ (T0.setTop (mkF m 2 #[.val (.ref x0), .val (.int (0 : Int32)), .val (.int (0 : Int32)), .val (.int (1 : Int32)), .unset, .unset, .unset] [(.int (0 : Int32)), (.int (1 : Int32))]))
  refine own_of (fun _ kk => XS.isub X0.here hx rfl (hb hby d7_2) rfl kk) ?_
  show own_Fin _ _ _ _ _ _ _ (T0.setTop (mkF m 3 #[.val (.ref x0), .val (.int (0 : Int32)), .val (.int (0 : Int32)), .val (.int (1 : Int32)), .unset, .unset, .unset] [(.int (1 : Int32))]))
  refine own_of (fun _ kk => XS.istore X0.here hx rfl (hb hby d7_3) rfl (l' := #[.val (.ref x0), .val (.int (0 : Int32)), .val (.int (0 : Int32)), .val (.int (1 : Int32)), .val (.int (1 : Int32)), .unset, .unset]) rfl kk) ?_
  show own_Fin _ _ _ _ _ _ _ (T0.setTop (mkF m 5 #[.val (.ref x0), .val (.int (0 : Int32)), .val (.int (0 : Int32)), .val (.int (1 : Int32)), .val (.int (1 : Int32)), .unset, .unset] []))
  refine own_of (fun _ kk => XS.iloadN X0.here hx rfl (hb hby d7_5) rfl kk) ?_
  show own_Fin _ _ _ _ _ _ _ (T0.setTop (mkF m 6 #[.val (.ref x0), .val (.int (0 : Int32)), .val (.int (0 : Int32)), .val (.int (1 : Int32)), .val (.int (1 : Int32)), .unset, .unset] [(.int (0 : Int32))]))
  refine own_of (fun _ kk => XS.iconst X0.here hx rfl (hb hby d7_6) kk) ?_
  show own_Fin _ _ _ _ _ _ _ (T0.setTop (mkF m 7 #[.val (.ref x0), .val (.int (0 : Int32)), .val (.int (0 : Int32)), .val (.int (1 : Int32)), .val (.int (1 : Int32)), .unset, .unset] [(.int (1 : Int32)), (.int (0 : Int32))]))
  refine own_of (fun _ kk => XS.icmpYes X0.here hx rfl (pc0 := 7) (pc' := 68) rfl (hb hby d7_7) rfl (flt (by decide : ¬ ((1 : Int32) < (0 : Int32)))).2.2.2 (by decide) (by decide) kk) ?_
  show own_Fin _ _ _ _ _ _ _ (T0.setTop (mkF m 68 #[.val (.ref x0), .val (.int (0 : Int32)), .val (.int (0 : Int32)), .val (.int (1 : Int32)), .val (.int (1 : Int32)), .unset, .unset] []))
  refine own_of (fun _ kk => XS.aconstNull X0.here hx rfl (hb hby d7_68) kk) ?_
  show own_Fin _ _ _ _ _ _ _ (T0.setTop (mkF m 69 #[.val (.ref x0), .val (.int (0 : Int32)), .val (.int (0 : Int32)), .val (.int (1 : Int32)), .val (.int (1 : Int32)), .unset, .unset] [.null]))
  refine own_of (fun _ kk => XS.aloadN X0.here hx rfl (hb hby d7_69) rfl rfl kk) ?_
  show own_Fin _ _ _ _ _ _ _ (T0.setTop (mkF m 70 #[.val (.ref x0), .val (.int (0 : Int32)), .val (.int (0 : Int32)), .val (.int (1 : Int32)), .val (.int (1 : Int32)), .unset, .unset] [(.ref x0), .null]))
  refine own_of (fun _ kk => XS.iconst X0.here hx rfl (hb hby d7_70) kk) ?_
  show own_Fin _ _ _ _ _ _ _ (T0.setTop (mkF m 71 #[.val (.ref x0), .val (.int (0 : Int32)), .val (.int (0 : Int32)), .val (.int (1 : Int32)), .val (.int (1 : Int32)), .unset, .unset] [(.int (0 : Int32)), (.ref x0), .null]))
  refine own_of (fun _ kk => XS.iloadN X0.here hx rfl (hb hby d7_71) rfl kk) ?_
  show own_Fin _ _ _ _ _ _ _ (T0.setTop (mkF m 72 #[.val (.ref x0), .val (.int (0 : Int32)), .val (.int (0 : Int32)), .val (.int (1 : Int32)), .val (.int (1 : Int32)), .unset, .unset] [(.int (0 : Int32)), (.int (0 : Int32)), (.ref x0), .null]))
  refine own_of (fun _ kk => XS.iloadN X0.here hx rfl (hb hby d7_72) rfl kk) ?_
  show own_Fin _ _ _ _ _ _ _ (T0.setTop (mkF m 73 #[.val (.ref x0), .val (.int (0 : Int32)), .val (.int (0 : Int32)), .val (.int (1 : Int32)), .val (.int (1 : Int32)), .unset, .unset] [(.int (1 : Int32)), (.int (0 : Int32)), (.int (0 : Int32)), (.ref x0), .null]))
  refine own_callS X0 hx hZ hown (hw _ (List.mem_of_getElem? (i := 43) rfl)) (hw _ (List.mem_of_getElem? (i := 44) rfl)) (hw _ (List.mem_of_getElem? (i := 41) rfl)) (hw _ (List.mem_of_getElem? (i := 45) rfl)) (by decide) e0 (argsL := [.null, (.ref x0), (.int (0 : Int32)), (.int (0 : Int32)), (.int (1 : Int32))]) (met8_1 l Z a0 hw x0 0 0 1 nw f h0 n0 Z0 rfl rfl rfl A ge hnw) (W := 0) (by decide) (by decide) (by decide) (by decide) (by rw [hml]; rfl) pd_8 rfl (rest := []) rfl (Nat.le_of_eq rfl) (hb hby d7_73) ?_
  intro v1 T1 h1 L1 X1 e1 q1
  obtain ⟨rfl, N1q, Z1, g, A1, K1, P1⟩ := q1
  have N1 := Fr.app N0 N1q
  show own_Fin _ _ _ _ _ _ _ (T1.setTop (mkF m 76 #[.val (.ref x0), .val (.int (0 : Int32)), .val (.int (0 : Int32)), .val (.int (1 : Int32)), .val (.int (1 : Int32)), .unset, .unset] []))
  exact own_retV X1 hx hlk e1 hret (hb hby d7_76) (by decide) (by decide) ⟨rfl, N1, Z1, g, A1, K1, P1⟩
set_option maxRecDepth 65536 in
set_option maxHeartbeats 40000000 in
theorem met6_1 (l : Launch) (Z : State) (a0 : Array Value) (hw : ∀ d ∈ tables_1, d.before a0 Z = true) (x0 : Int32) (x1 : Int32) (x2 : Int32) (nw : Nat) (h0 : Heap) (n0 : Nat) (Z0 : n0 ≤ h0.size) (hq0 : x1 = 0) (hq1 : x2 = 1) (hz : x0.toInt = (nw : Int)) (hnw : 1 ≤ nw) :
    own_Met l Z (⟨"java/util/Arrays", "rangeCheck", "(III)V"⟩ : MethodName) jdk_65_method_30_code 3 none { frames := 0, cells := 0, slots := 0, locals := 0 } #[(.int x0), (.int x1), (.int x2)] h0 (fun v h L => v = none ∧ Fr n0 L ∧ n0 ≤ h.size ∧ h = h0) := by
  refine own_met pn_6 ?_
  intro p e s m below meth c T0 X0 hx hby hml hown hZ e0 hret hlk hnm
  rw [ef_6 m x0 x1 x2]
  have N0 := Fr.nil n0
  subst hq0 hq1
  have kk : (1 : Int32).toInt = 1 := by decide
  show own_Fin _ _ _ _ _ _ _ (T0.setTop (mkF m 0 #[.val (.int x0), .val (.int (0 : Int32)), .val (.int (1 : Int32))] []))
  refine own_of (fun _ kk => XS.iloadN X0.here hx rfl (hb hby d6_0) rfl kk) ?_
  show own_Fin _ _ _ _ _ _ _ (T0.setTop (mkF m 1 #[.val (.int x0), .val (.int (0 : Int32)), .val (.int (1 : Int32))] [(.int (0 : Int32))]))
  refine own_of (fun _ kk => XS.iloadN X0.here hx rfl (hb hby d6_1) rfl kk) ?_
  show own_Fin _ _ _ _ _ _ _ (T0.setTop (mkF m 2 #[.val (.int x0), .val (.int (0 : Int32)), .val (.int (1 : Int32))] [(.int (1 : Int32)), (.int (0 : Int32))]))
  refine own_of (fun _ kk => XS.icmpYes X0.here hx rfl (pc0 := 2) (pc' := 46) rfl (hb hby d6_2) rfl (flt (by decide : ¬ ((1 : Int32) < (0 : Int32)))).2.2.2 (by decide) (by decide) kk) ?_
  show own_Fin _ _ _ _ _ _ _ (T0.setTop (mkF m 46 #[.val (.int x0), .val (.int (0 : Int32)), .val (.int (1 : Int32))] []))
  refine own_of (fun _ kk => XS.iloadN X0.here hx rfl (hb hby d6_46) rfl kk) ?_
  show own_Fin _ _ _ _ _ _ _ (T0.setTop (mkF m 47 #[.val (.int x0), .val (.int (0 : Int32)), .val (.int (1 : Int32))] [(.int (0 : Int32))]))
  refine own_of (fun _ kk => XS.ifYes X0.here hx rfl (pc0 := 47) (pc' := 59) rfl (hb hby d6_47) rfl ((if0 _ _).trans (flt (by decide : ¬ ((0 : Int32) < (0 : Int32)))).2.1) (by decide) (by decide) kk) ?_
  show own_Fin _ _ _ _ _ _ _ (T0.setTop (mkF m 59 #[.val (.int x0), .val (.int (0 : Int32)), .val (.int (1 : Int32))] []))
  refine own_of (fun _ kk => XS.iloadN X0.here hx rfl (hb hby d6_59) rfl kk) ?_
  show own_Fin _ _ _ _ _ _ _ (T0.setTop (mkF m 60 #[.val (.int x0), .val (.int (0 : Int32)), .val (.int (1 : Int32))] [(.int (1 : Int32))]))
  refine own_of (fun _ kk => XS.iloadN X0.here hx rfl (hb hby d6_60) rfl kk) ?_
  show own_Fin _ _ _ _ _ _ _ (T0.setTop (mkF m 61 #[.val (.int x0), .val (.int (0 : Int32)), .val (.int (1 : Int32))] [(.int x0), (.int (1 : Int32))]))
  refine own_of (fun _ kk => XS.icmpYes X0.here hx rfl (pc0 := 61) (pc' := 73) rfl (hb hby d6_61) rfl (flt (by rw [Int32.lt_iff_toInt_lt]; omega)).2.2.2 (by decide) (by decide) kk) ?_
  show own_Fin _ _ _ _ _ _ _ (T0.setTop (mkF m 73 #[.val (.int x0), .val (.int (0 : Int32)), .val (.int (1 : Int32))] []))
  exact own_retV X0 hx hlk e0 hret (hb hby d6_73) (by decide) (by decide) ⟨rfl, N0, Z0, rfl⟩
set_option maxRecDepth 65536 in
set_option maxHeartbeats 40000000 in
theorem met5_1 (l : Launch) (Z : State) (a0 : Array Value) (hw : ∀ d ∈ tables_1, d.before a0 Z = true) (x0 : Addr) (x1 : Int32) (x2 : Int32) (nw : Nat) (f : Nat → Int32) (zw : Int32) (h0 : Heap) (n0 : Nat) (Z0 : n0 ≤ h0.size) (hq0 : x1 = 0) (hq1 : x2 = 1) (A : own_Arf Z h0 x0 .int nw (fun j => .int (f j))) (ge : n0 ≤ x0) (hnw : 1 ≤ nw) (hz : zw.toInt = (nw : Int)) :
    own_Met l Z (⟨"java/util/Arrays", "sort", "([III)V"⟩ : MethodName) jdk_65_method_3_code 3 none { frames := 3, cells := 0, slots := 0, locals := 67 } #[(.ref x0), (.int x1), (.int x2)] h0 (fun v h L => v = none ∧ Fr n0 L ∧ n0 ≤ h.size ∧ ∃ g : Nat → Int32, own_Arf Z h x0 .int nw (fun j => .int (g j)) ∧ Keep h0 h [x0] ∧ own_Perm 1 f g) := by
  refine own_met pn_5 ?_
  intro p e s m below meth c T0 X0 hx hby hml hown hZ e0 hret hlk hnm
  rw [ef_5 m x0 x1 x2]
  have N0 := Fr.nil n0
  subst hq0 hq1
  show own_Fin _ _ _ _ _ _ _ (T0.setTop (mkF m 0 #[.val (.ref x0), .val (.int (0 : Int32)), .val (.int (1 : Int32))] []))
  refine own_of (fun _ kk => XS.aloadN X0.here hx rfl (hb hby d5_0) rfl rfl kk) ?_
  show own_Fin _ _ _ _ _ _ _ (T0.setTop (mkF m 1 #[.val (.ref x0), .val (.int (0 : Int32)), .val (.int (1 : Int32))] [(.ref x0)]))
  refine own_arraylength X0 hx hZ e0 A (z := zw) hz (hb hby d5_1) ?_
  show own_Fin _ _ _ _ _ _ _ (T0.setTop (mkF m 2 #[.val (.ref x0), .val (.int (0 : Int32)), .val (.int (1 : Int32))] [(.int zw)]))
  refine own_of (fun _ kk => XS.iloadN X0.here hx rfl (hb hby d5_2) rfl kk) ?_
  show own_Fin _ _ _ _ _ _ _ (T0.setTop (mkF m 3 #[.val (.ref x0), .val (.int (0 : Int32)), .val (.int (1 : Int32))] [(.int (0 : Int32)), (.int zw)]))
  refine own_of (fun _ kk => XS.iloadN X0.here hx rfl (hb hby d5_3) rfl kk) ?_
  show own_Fin _ _ _ _ _ _ _ (T0.setTop (mkF m 4 #[.val (.ref x0), .val (.int (0 : Int32)), .val (.int (1 : Int32))] [(.int (1 : Int32)), (.int (0 : Int32)), (.int zw)]))
  refine own_callS X0 hx hZ hown (hw _ (List.mem_of_getElem? (i := 36) rfl)) (hw _ (List.mem_of_getElem? (i := 37) rfl)) (hw _ (List.mem_of_getElem? (i := 34) rfl)) (hw _ (List.mem_of_getElem? (i := 38) rfl)) (by decide) e0 (argsL := [(.int zw), (.int (0 : Int32)), (.int (1 : Int32))]) (met6_1 l Z a0 hw zw 0 1 nw h0 n0 Z0 rfl rfl hz hnw) (W := 0) (by decide) (by decide) (by decide) (by decide) (by rw [hml]; rfl) pd_5 rfl (rest := []) rfl (Nat.le_of_eq rfl) (hb hby d5_4) ?_
  intro v1 T1 h1 L1 X1 e1 q1
  obtain ⟨rfl, N1q, Z1, qh1⟩ := q1
  have N1 := Fr.app N0 N1q
  show own_Fin _ _ _ _ _ _ _ (T1.setTop (mkF m 7 #[.val (.ref x0), .val (.int (0 : Int32)), .val (.int (1 : Int32))] []))
  rw [qh1] at e1
  refine own_of (fun _ kk => XS.aloadN X1.here hx rfl (hb hby d5_7) rfl rfl kk) ?_
  show own_Fin _ _ _ _ _ _ _ (T1.setTop (mkF m 8 #[.val (.ref x0), .val (.int (0 : Int32)), .val (.int (1 : Int32))] [(.ref x0)]))
  refine own_of (fun _ kk => XS.iconst X1.here hx rfl (hb hby d5_8) kk) ?_
  show own_Fin _ _ _ _ _ _ _ (T1.setTop (mkF m 9 #[.val (.ref x0), .val (.int (0 : Int32)), .val (.int (1 : Int32))] [(.int (0 : Int32)), (.ref x0)]))
  refine own_of (fun _ kk => XS.iloadN X1.here hx rfl (hb hby d5_9) rfl kk) ?_
  show own_Fin _ _ _ _ _ _ _ (T1.setTop (mkF m 10 #[.val (.ref x0), .val (.int (0 : Int32)), .val (.int (1 : Int32))] [(.int (0 : Int32)), (.int (0 : Int32)), (.ref x0)]))
  refine own_of (fun _ kk => XS.iloadN X1.here hx rfl (hb hby d5_10) rfl kk) ?_
  show own_Fin _ _ _ _ _ _ _ (T1.setTop (mkF m 11 #[.val (.ref x0), .val (.int (0 : Int32)), .val (.int (1 : Int32))] [(.int (1 : Int32)), (.int (0 : Int32)), (.int (0 : Int32)), (.ref x0)]))
  refine own_callS X1 hx hZ hown (hw _ (List.mem_of_getElem? (i := 39) rfl)) (hw _ (List.mem_of_getElem? (i := 40) rfl)) (hw _ (List.mem_of_getElem? (i := 41) rfl)) (hw _ (List.mem_of_getElem? (i := 42) rfl)) (by decide) e1 (argsL := [(.ref x0), (.int (0 : Int32)), (.int (0 : Int32)), (.int (1 : Int32))]) (met7_1 l Z a0 hw x0 0 0 1 nw f h0 n0 Z0 rfl rfl rfl A ge hnw) (W := 0) (by decide) (by decide) (by decide) (by decide) (by rw [hml]; rfl) pd_11 rfl (rest := []) rfl (Nat.le_of_eq rfl) (hb hby d5_11) ?_
  intro v2 T2 h2 L2 X2 e2 q2
  obtain ⟨rfl, N2q, Z2, g, A2, K2, P2⟩ := q2
  have N2 := Fr.app N1 N2q
  show own_Fin _ _ _ _ _ _ _ (T2.setTop (mkF m 14 #[.val (.ref x0), .val (.int (0 : Int32)), .val (.int (1 : Int32))] []))
  exact own_retV X2 hx hlk e2 hret (hb hby d5_14) (by decide) (by decide) ⟨rfl, N2, Z2, g, A2, K2, P2⟩
set_option maxRecDepth 65536 in
set_option maxHeartbeats 40000000 in
theorem met8_2 (l : Launch) (Z : State) (a0 : Array Value) (hw : ∀ d ∈ tables_1, d.before a0 Z = true) (x1 : Addr) (x2 : Int32) (x3 : Int32) (x4 : Int32) (nw : Nat) (f : Nat → Int32) (h0 : Heap) (n0 : Nat) (Z0 : n0 ≤ h0.size) (hq0 : x2 = 0) (hq1 : x3 = 0) (hq2 : x4 = 2) (A : own_Arf Z h0 x1 .int nw (fun j => .int (f j))) (ge : n0 ≤ x1) (hnw : 2 ≤ nw) :
    own_Met l Z (⟨"java/util/DualPivotQuicksort", "sort", "(Ljava/util/DualPivotQuicksort$Sorter;[IIII)V"⟩ : MethodName) jdk_2529_method_4_code 21 none { frames := 1, cells := 0, slots := 0, locals := 17 } #[.null, (.ref x1), (.int x2), (.int x3), (.int x4)] h0 (fun v h L => v = none ∧ Fr n0 L ∧ n0 ≤ h.size ∧ ∃ g : Nat → Int32, own_Arf Z h x1 .int nw (fun j => .int (g j)) ∧ Keep h0 h [x1] ∧ own_Perm 2 f g) := by
  refine own_met pn_8 ?_
  intro p e s m below meth c T0 X0 hx hby hml hown hZ e0 hret hlk hnm
  rw [ef_8 m x1 x2 x3 x4]
  have N0 := Fr.nil n0
  subst hq0 hq1 hq2
  show own_Fin _ _ _ _ _ _ _ (T0.setTop (mkF m 0 #[.val .null, .val (.ref x1), .val (.int (0 : Int32)), .val (.int (0 : Int32)), .val (.int (2 : Int32)), .unset, .unset, .unset, .unset, .unset, .unset, .unset, .unset, .unset, .unset, .unset, .unset, .unset, .unset, .unset, .unset] []))
  refine own_of (fun _ kk => XS.iload X0.here hx rfl (hb hby d8_0) rfl kk) ?_
  show own_Fin _ _ _ _ _ _ _ (T0.setTop (mkF m 2 #[.val .null, .val (.ref x1), .val (.int (0 : Int32)), .val (.int (0 : Int32)), .val (.int (2 : Int32)), .unset, .unset, .unset, .unset, .unset, .unset, .unset, .unset, .unset, .unset, .unset, .unset, .unset, .unset, .unset, .unset] [(.int (2 : Int32))]))
  refine own_of (fun _ kk => XS.iconst X0.here hx rfl (hb hby d8_2) kk) ?_
  show own_Fin _ _ _ _ _ _ _ (T0.setTop (mkF m 3 #[.val .null, .val (.ref x1), .val (.int (0 : Int32)), .val (.int (0 : Int32)), .val (.int (2 : Int32)), .unset, .unset, .unset, .unset, .unset, .unset, .unset, .unset, .unset, .unset, .unset, .unset, .unset, .unset, .unset, .unset] [(.int (1 : Int32)), (.int (2 : Int32))]))
  refine own_of (fun _ kk => XS.isub X0.here hx rfl (hb hby d8_3) rfl kk) ?_
  show own_Fin _ _ _ _ _ _ _ (T0.setTop (mkF m 4 #[.val .null, .val (.ref x1), .val (.int (0 : Int32)), .val (.int (0 : Int32)), .val (.int (2 : Int32)), .unset, .unset, .unset, .unset, .unset, .unset, .unset, .unset, .unset, .unset, .unset, .unset, .unset, .unset, .unset, .unset] [(.int (1 : Int32))]))
  refine own_of (fun _ kk => XS.istore X0.here hx rfl (hb hby d8_4) rfl (l' := #[.val .null, .val (.ref x1), .val (.int (0 : Int32)), .val (.int (0 : Int32)), .val (.int (2 : Int32)), .val (.int (1 : Int32)), .unset, .unset, .unset, .unset, .unset, .unset, .unset, .unset, .unset, .unset, .unset, .unset, .unset, .unset, .unset]) rfl kk) ?_
  show own_Fin _ _ _ _ _ _ _ (T0.setTop (mkF m 6 #[.val .null, .val (.ref x1), .val (.int (0 : Int32)), .val (.int (0 : Int32)), .val (.int (2 : Int32)), .val (.int (1 : Int32)), .unset, .unset, .unset, .unset, .unset, .unset, .unset, .unset, .unset, .unset, .unset, .unset, .unset, .unset, .unset] []))
  refine own_of (fun _ kk => XS.iload X0.here hx rfl (hb hby d8_6) rfl kk) ?_
  show own_Fin _ _ _ _ _ _ _ (T0.setTop (mkF m 8 #[.val .null, .val (.ref x1), .val (.int (0 : Int32)), .val (.int (0 : Int32)), .val (.int (2 : Int32)), .val (.int (1 : Int32)), .unset, .unset, .unset, .unset, .unset, .unset, .unset, .unset, .unset, .unset, .unset, .unset, .unset, .unset, .unset] [(.int (2 : Int32))]))
  refine own_of (fun _ kk => XS.iloadN X0.here hx rfl (hb hby d8_8) rfl kk) ?_
  show own_Fin _ _ _ _ _ _ _ (T0.setTop (mkF m 9 #[.val .null, .val (.ref x1), .val (.int (0 : Int32)), .val (.int (0 : Int32)), .val (.int (2 : Int32)), .val (.int (1 : Int32)), .unset, .unset, .unset, .unset, .unset, .unset, .unset, .unset, .unset, .unset, .unset, .unset, .unset, .unset, .unset] [(.int (0 : Int32)), (.int (2 : Int32))]))
  refine own_of (fun _ kk => XS.isub X0.here hx rfl (hb hby d8_9) rfl kk) ?_
  show own_Fin _ _ _ _ _ _ _ (T0.setTop (mkF m 10 #[.val .null, .val (.ref x1), .val (.int (0 : Int32)), .val (.int (0 : Int32)), .val (.int (2 : Int32)), .val (.int (1 : Int32)), .unset, .unset, .unset, .unset, .unset, .unset, .unset, .unset, .unset, .unset, .unset, .unset, .unset, .unset, .unset] [(.int (2 : Int32))]))
  refine own_of (fun _ kk => XS.istore X0.here hx rfl (hb hby d8_10) rfl (l' := #[.val .null, .val (.ref x1), .val (.int (0 : Int32)), .val (.int (0 : Int32)), .val (.int (2 : Int32)), .val (.int (1 : Int32)), .val (.int (2 : Int32)), .unset, .unset, .unset, .unset, .unset, .unset, .unset, .unset, .unset, .unset, .unset, .unset, .unset, .unset]) rfl kk) ?_
  show own_Fin _ _ _ _ _ _ _ (T0.setTop (mkF m 12 #[.val .null, .val (.ref x1), .val (.int (0 : Int32)), .val (.int (0 : Int32)), .val (.int (2 : Int32)), .val (.int (1 : Int32)), .val (.int (2 : Int32)), .unset, .unset, .unset, .unset, .unset, .unset, .unset, .unset, .unset, .unset, .unset, .unset, .unset, .unset] []))
  refine own_of (fun _ kk => XS.iload X0.here hx rfl (hb hby d8_12) rfl kk) ?_
  show own_Fin _ _ _ _ _ _ _ (T0.setTop (mkF m 14 #[.val .null, .val (.ref x1), .val (.int (0 : Int32)), .val (.int (0 : Int32)), .val (.int (2 : Int32)), .val (.int (1 : Int32)), .val (.int (2 : Int32)), .unset, .unset, .unset, .unset, .unset, .unset, .unset, .unset, .unset, .unset, .unset, .unset, .unset, .unset] [(.int (2 : Int32))]))
  refine own_of (fun _ kk => XS.bipush X0.here hx rfl (hb hby d8_14) kk) ?_
  show own_Fin _ _ _ _ _ _ _ (T0.setTop (mkF m 16 #[.val .null, .val (.ref x1), .val (.int (0 : Int32)), .val (.int (0 : Int32)), .val (.int (2 : Int32)), .val (.int (1 : Int32)), .val (.int (2 : Int32)), .unset, .unset, .unset, .unset, .unset, .unset, .unset, .unset, .unset, .unset, .unset, .unset, .unset, .unset] [(.int (65 : Int32)), (.int (2 : Int32))]))
  refine own_of (fun _ kk => XS.iloadN X0.here hx rfl (hb hby d8_16) rfl kk) ?_
  show own_Fin _ _ _ _ _ _ _ (T0.setTop (mkF m 17 #[.val .null, .val (.ref x1), .val (.int (0 : Int32)), .val (.int (0 : Int32)), .val (.int (2 : Int32)), .val (.int (1 : Int32)), .val (.int (2 : Int32)), .unset, .unset, .unset, .unset, .unset, .unset, .unset, .unset, .unset, .unset, .unset, .unset, .unset, .unset] [(.int (0 : Int32)), (.int (65 : Int32)), (.int (2 : Int32))]))
  refine own_of (fun _ kk => XS.iadd X0.here hx rfl (hb hby d8_17) rfl kk) ?_
  show own_Fin _ _ _ _ _ _ _ (T0.setTop (mkF m 18 #[.val .null, .val (.ref x1), .val (.int (0 : Int32)), .val (.int (0 : Int32)), .val (.int (2 : Int32)), .val (.int (1 : Int32)), .val (.int (2 : Int32)), .unset, .unset, .unset, .unset, .unset, .unset, .unset, .unset, .unset, .unset, .unset, .unset, .unset, .unset] [(.int (65 : Int32)), (.int (2 : Int32))]))
  refine own_of (fun _ kk => XS.icmpNo X0.here hx rfl (hb hby d8_18) rfl (tlt (by decide : ((2 : Int32) < (65 : Int32)))).2.1 kk) ?_
  show own_Fin _ _ _ _ _ _ _ (T0.setTop (mkF m 21 #[.val .null, .val (.ref x1), .val (.int (0 : Int32)), .val (.int (0 : Int32)), .val (.int (2 : Int32)), .val (.int (1 : Int32)), .val (.int (2 : Int32)), .unset, .unset, .unset, .unset, .unset, .unset, .unset, .unset, .unset, .unset, .unset, .unset, .unset, .unset] []))
  refine own_of (fun _ kk => XS.iloadN X0.here hx rfl (hb hby d8_21) rfl kk) ?_
  show own_Fin _ _ _ _ _ _ _ (T0.setTop (mkF m 22 #[.val .null, .val (.ref x1), .val (.int (0 : Int32)), .val (.int (0 : Int32)), .val (.int (2 : Int32)), .val (.int (1 : Int32)), .val (.int (2 : Int32)), .unset, .unset, .unset, .unset, .unset, .unset, .unset, .unset, .unset, .unset, .unset, .unset, .unset, .unset] [(.int (0 : Int32))]))
  refine own_of (fun _ kk => XS.iconst X0.here hx rfl (hb hby d8_22) kk) ?_
  show own_Fin _ _ _ _ _ _ _ (T0.setTop (mkF m 23 #[.val .null, .val (.ref x1), .val (.int (0 : Int32)), .val (.int (0 : Int32)), .val (.int (2 : Int32)), .val (.int (1 : Int32)), .val (.int (2 : Int32)), .unset, .unset, .unset, .unset, .unset, .unset, .unset, .unset, .unset, .unset, .unset, .unset, .unset, .unset] [(.int (1 : Int32)), (.int (0 : Int32))]))
  refine own_of (fun _ kk => XS.iand X0.here hx rfl (hb hby d8_23) rfl kk) ?_
  show own_Fin _ _ _ _ _ _ _ (T0.setTop (mkF m 24 #[.val .null, .val (.ref x1), .val (.int (0 : Int32)), .val (.int (0 : Int32)), .val (.int (2 : Int32)), .val (.int (1 : Int32)), .val (.int (2 : Int32)), .unset, .unset, .unset, .unset, .unset, .unset, .unset, .unset, .unset, .unset, .unset, .unset, .unset, .unset] [(.int (0 : Int32))]))
  refine own_of (fun _ kk => XS.ifYes X0.here hx rfl (pc0 := 24) (pc' := 46) rfl (hb hby d8_24) rfl ((if0 _ _).trans (flt (by decide : ¬ ((0 : Int32) < (0 : Int32)))).2.2.2) (by decide) (by decide) kk) ?_
  show own_Fin _ _ _ _ _ _ _ (T0.setTop (mkF m 46 #[.val .null, .val (.ref x1), .val (.int (0 : Int32)), .val (.int (0 : Int32)), .val (.int (2 : Int32)), .val (.int (1 : Int32)), .val (.int (2 : Int32)), .unset, .unset, .unset, .unset, .unset, .unset, .unset, .unset, .unset, .unset, .unset, .unset, .unset, .unset] []))
  refine own_of (fun _ kk => XS.iload X0.here hx rfl (hb hby d8_46) rfl kk) ?_
  show own_Fin _ _ _ _ _ _ _ (T0.setTop (mkF m 48 #[.val .null, .val (.ref x1), .val (.int (0 : Int32)), .val (.int (0 : Int32)), .val (.int (2 : Int32)), .val (.int (1 : Int32)), .val (.int (2 : Int32)), .unset, .unset, .unset, .unset, .unset, .unset, .unset, .unset, .unset, .unset, .unset, .unset, .unset, .unset] [(.int (2 : Int32))]))
  refine own_of (fun _ kk => XS.bipush X0.here hx rfl (hb hby d8_48) kk) ?_
  show own_Fin _ _ _ _ _ _ _ (T0.setTop (mkF m 50 #[.val .null, .val (.ref x1), .val (.int (0 : Int32)), .val (.int (0 : Int32)), .val (.int (2 : Int32)), .val (.int (1 : Int32)), .val (.int (2 : Int32)), .unset, .unset, .unset, .unset, .unset, .unset, .unset, .unset, .unset, .unset, .unset, .unset, .unset, .unset] [(.int (44 : Int32)), (.int (2 : Int32))]))
  refine own_of (fun _ kk => XS.icmpNo X0.here hx rfl (hb hby d8_50) rfl (tlt (by decide : ((2 : Int32) < (44 : Int32)))).2.1 kk) ?_
  show own_Fin _ _ _ _ _ _ _ (T0.setTop (mkF m 53 #[.val .null, .val (.ref x1), .val (.int (0 : Int32)), .val (.int (0 : Int32)), .val (.int (2 : Int32)), .val (.int (1 : Int32)), .val (.int (2 : Int32)), .unset, .unset, .unset, .unset, .unset, .unset, .unset, .unset, .unset, .unset, .unset, .unset, .unset, .unset] []))
  refine own_of (fun _ kk => XS.aloadN X0.here hx rfl (hb hby d8_53) rfl rfl kk) ?_
  show own_Fin _ _ _ _ _ _ _ (T0.setTop (mkF m 54 #[.val .null, .val (.ref x1), .val (.int (0 : Int32)), .val (.int (0 : Int32)), .val (.int (2 : Int32)), .val (.int (1 : Int32)), .val (.int (2 : Int32)), .unset, .unset, .unset, .unset, .unset, .unset, .unset, .unset, .unset, .unset, .unset, .unset, .unset, .unset] [(.ref x1)]))
  refine own_of (fun _ kk => XS.iloadN X0.here hx rfl (hb hby d8_54) rfl kk) ?_
  show own_Fin _ _ _ _ _ _ _ (T0.setTop (mkF m 55 #[.val .null, .val (.ref x1), .val (.int (0 : Int32)), .val (.int (0 : Int32)), .val (.int (2 : Int32)), .val (.int (1 : Int32)), .val (.int (2 : Int32)), .unset, .unset, .unset, .unset, .unset, .unset, .unset, .unset, .unset, .unset, .unset, .unset, .unset, .unset] [(.int (0 : Int32)), (.ref x1)]))
  refine own_of (fun _ kk => XS.iload X0.here hx rfl (hb hby d8_55) rfl kk) ?_
  show own_Fin _ _ _ _ _ _ _ (T0.setTop (mkF m 57 #[.val .null, .val (.ref x1), .val (.int (0 : Int32)), .val (.int (0 : Int32)), .val (.int (2 : Int32)), .val (.int (1 : Int32)), .val (.int (2 : Int32)), .unset, .unset, .unset, .unset, .unset, .unset, .unset, .unset, .unset, .unset, .unset, .unset, .unset, .unset] [(.int (2 : Int32)), (.int (0 : Int32)), (.ref x1)]))
  refine own_callS X0 hx hZ hown (hw _ (List.mem_of_getElem? (i := 46) rfl)) (hw _ (List.mem_of_getElem? (i := 47) rfl)) (hw _ (List.mem_of_getElem? (i := 41) rfl)) (hw _ (List.mem_of_getElem? (i := 48) rfl)) (by decide) e0 (argsL := [(.ref x1), (.int (0 : Int32)), (.int (2 : Int32))]) (met9_2 l Z a0 hw x1 0 2 nw f h0 n0 Z0 rfl rfl A ge hnw) (W := 0) (by decide) (by decide) (by decide) (by decide) (by rw [hml]; rfl) pd_10 rfl (rest := []) rfl (Nat.le_of_eq rfl) (hb hby d8_57) ?_
  intro v1 T1 h1 L1 X1 e1 q1
  obtain ⟨rfl, N1q, Z1, g, A1, K1, P1⟩ := q1
  have N1 := Fr.app N0 N1q
  show own_Fin _ _ _ _ _ _ _ (T1.setTop (mkF m 60 #[.val .null, .val (.ref x1), .val (.int (0 : Int32)), .val (.int (0 : Int32)), .val (.int (2 : Int32)), .val (.int (1 : Int32)), .val (.int (2 : Int32)), .unset, .unset, .unset, .unset, .unset, .unset, .unset, .unset, .unset, .unset, .unset, .unset, .unset, .unset] []))
  exact own_retV X1 hx hlk e1 hret (hb hby d8_60) (by decide) (by decide) ⟨rfl, N1, Z1, g, A1, K1, P1⟩
set_option maxRecDepth 65536 in
set_option maxHeartbeats 40000000 in
theorem met7_2 (l : Launch) (Z : State) (a0 : Array Value) (hw : ∀ d ∈ tables_1, d.before a0 Z = true) (x0 : Addr) (x1 : Int32) (x2 : Int32) (x3 : Int32) (nw : Nat) (f : Nat → Int32) (h0 : Heap) (n0 : Nat) (Z0 : n0 ≤ h0.size) (hq0 : x1 = 0) (hq1 : x2 = 0) (hq2 : x3 = 2) (A : own_Arf Z h0 x0 .int nw (fun j => .int (f j))) (ge : n0 ≤ x0) (hnw : 2 ≤ nw) :
    own_Met l Z (⟨"java/util/DualPivotQuicksort", "sort", "([IIII)V"⟩ : MethodName) jdk_2529_method_3_code 7 none { frames := 2, cells := 0, slots := 0, locals := 49 } #[(.ref x0), (.int x1), (.int x2), (.int x3)] h0 (fun v h L => v = none ∧ Fr n0 L ∧ n0 ≤ h.size ∧ ∃ g : Nat → Int32, own_Arf Z h x0 .int nw (fun j => .int (g j)) ∧ Keep h0 h [x0] ∧ own_Perm 2 f g) := by
  refine own_met pn_7 ?_
  intro p e s m below meth c T0 X0 hx hby hml hown hZ e0 hret hlk hnm
  rw [ef_7 m x0 x1 x2 x3]
  have N0 := Fr.nil n0
  subst hq0 hq1 hq2
  show own_Fin _ _ _ _ _ _ _ (T0.setTop (mkF m 0 #[.val (.ref x0), .val (.int (0 : Int32)), .val (.int (0 : Int32)), .val (.int (2 : Int32)), .unset, .unset, .unset] []))
  refine own_of (fun _ kk => XS.iloadN X0.here hx rfl (hb hby d7_0) rfl kk) ?_
  show own_Fin _ _ _ _ _ _ _ (T0.setTop (mkF m 1 #[.val (.ref x0), .val (.int (0 : Int32)), .val (.int (0 : Int32)), .val (.int (2 : Int32)), .unset, .unset, .unset] [(.int (2 : Int32))]))
  refine own_of (fun _ kk => XS.iloadN X0.here hx rfl (hb hby d7_1) rfl kk) ?_
  show own_Fin _ _ _ _ _ _ _ (T0.setTop (mkF m 2 #[.val (.ref x0), .val (.int (0 : Int32)), .val (.int (0 : Int32)), .val (.int (2 : Int32)), .unset, .unset, .unset] [(.int (0 : Int32)), (.int (2 : Int32))]))
  refine own_of (fun _ kk => XS.isub X0.here hx rfl (hb hby d7_2) rfl kk) ?_
  show own_Fin _ _ _ _ _ _ _ (T0.setTop (mkF m 3 #[.val (.ref x0), .val (.int (0 : Int32)), .val (.int (0 : Int32)), .val (.int (2 : Int32)), .unset, .unset, .unset] [(.int (2 : Int32))]))
  refine own_of (fun _ kk => XS.istore X0.here hx rfl (hb hby d7_3) rfl (l' := #[.val (.ref x0), .val (.int (0 : Int32)), .val (.int (0 : Int32)), .val (.int (2 : Int32)), .val (.int (2 : Int32)), .unset, .unset]) rfl kk) ?_
  show own_Fin _ _ _ _ _ _ _ (T0.setTop (mkF m 5 #[.val (.ref x0), .val (.int (0 : Int32)), .val (.int (0 : Int32)), .val (.int (2 : Int32)), .val (.int (2 : Int32)), .unset, .unset] []))
  refine own_of (fun _ kk => XS.iloadN X0.here hx rfl (hb hby d7_5) rfl kk) ?_
  show own_Fin _ _ _ _ _ _ _ (T0.setTop (mkF m 6 #[.val (.ref x0), .val (.int (0 : Int32)), .val (.int (0 : Int32)), .val (.int (2 : Int32)), .val (.int (2 : Int32)), .unset, .unset] [(.int (0 : Int32))]))
  refine own_of (fun _ kk => XS.iconst X0.here hx rfl (hb hby d7_6) kk) ?_
  show own_Fin _ _ _ _ _ _ _ (T0.setTop (mkF m 7 #[.val (.ref x0), .val (.int (0 : Int32)), .val (.int (0 : Int32)), .val (.int (2 : Int32)), .val (.int (2 : Int32)), .unset, .unset] [(.int (1 : Int32)), (.int (0 : Int32))]))
  refine own_of (fun _ kk => XS.icmpYes X0.here hx rfl (pc0 := 7) (pc' := 68) rfl (hb hby d7_7) rfl (flt (by decide : ¬ ((1 : Int32) < (0 : Int32)))).2.2.2 (by decide) (by decide) kk) ?_
  show own_Fin _ _ _ _ _ _ _ (T0.setTop (mkF m 68 #[.val (.ref x0), .val (.int (0 : Int32)), .val (.int (0 : Int32)), .val (.int (2 : Int32)), .val (.int (2 : Int32)), .unset, .unset] []))
  refine own_of (fun _ kk => XS.aconstNull X0.here hx rfl (hb hby d7_68) kk) ?_
  show own_Fin _ _ _ _ _ _ _ (T0.setTop (mkF m 69 #[.val (.ref x0), .val (.int (0 : Int32)), .val (.int (0 : Int32)), .val (.int (2 : Int32)), .val (.int (2 : Int32)), .unset, .unset] [.null]))
  refine own_of (fun _ kk => XS.aloadN X0.here hx rfl (hb hby d7_69) rfl rfl kk) ?_
  show own_Fin _ _ _ _ _ _ _ (T0.setTop (mkF m 70 #[.val (.ref x0), .val (.int (0 : Int32)), .val (.int (0 : Int32)), .val (.int (2 : Int32)), .val (.int (2 : Int32)), .unset, .unset] [(.ref x0), .null]))
  refine own_of (fun _ kk => XS.iconst X0.here hx rfl (hb hby d7_70) kk) ?_
  show own_Fin _ _ _ _ _ _ _ (T0.setTop (mkF m 71 #[.val (.ref x0), .val (.int (0 : Int32)), .val (.int (0 : Int32)), .val (.int (2 : Int32)), .val (.int (2 : Int32)), .unset, .unset] [(.int (0 : Int32)), (.ref x0), .null]))
  refine own_of (fun _ kk => XS.iloadN X0.here hx rfl (hb hby d7_71) rfl kk) ?_
  show own_Fin _ _ _ _ _ _ _ (T0.setTop (mkF m 72 #[.val (.ref x0), .val (.int (0 : Int32)), .val (.int (0 : Int32)), .val (.int (2 : Int32)), .val (.int (2 : Int32)), .unset, .unset] [(.int (0 : Int32)), (.int (0 : Int32)), (.ref x0), .null]))
  refine own_of (fun _ kk => XS.iloadN X0.here hx rfl (hb hby d7_72) rfl kk) ?_
  show own_Fin _ _ _ _ _ _ _ (T0.setTop (mkF m 73 #[.val (.ref x0), .val (.int (0 : Int32)), .val (.int (0 : Int32)), .val (.int (2 : Int32)), .val (.int (2 : Int32)), .unset, .unset] [(.int (2 : Int32)), (.int (0 : Int32)), (.int (0 : Int32)), (.ref x0), .null]))
  refine own_callS X0 hx hZ hown (hw _ (List.mem_of_getElem? (i := 43) rfl)) (hw _ (List.mem_of_getElem? (i := 44) rfl)) (hw _ (List.mem_of_getElem? (i := 41) rfl)) (hw _ (List.mem_of_getElem? (i := 45) rfl)) (by decide) e0 (argsL := [.null, (.ref x0), (.int (0 : Int32)), (.int (0 : Int32)), (.int (2 : Int32))]) (met8_2 l Z a0 hw x0 0 0 2 nw f h0 n0 Z0 rfl rfl rfl A ge hnw) (W := 0) (by decide) (by decide) (by decide) (by decide) (by rw [hml]; rfl) pd_8 rfl (rest := []) rfl (Nat.le_of_eq rfl) (hb hby d7_73) ?_
  intro v1 T1 h1 L1 X1 e1 q1
  obtain ⟨rfl, N1q, Z1, g, A1, K1, P1⟩ := q1
  have N1 := Fr.app N0 N1q
  show own_Fin _ _ _ _ _ _ _ (T1.setTop (mkF m 76 #[.val (.ref x0), .val (.int (0 : Int32)), .val (.int (0 : Int32)), .val (.int (2 : Int32)), .val (.int (2 : Int32)), .unset, .unset] []))
  exact own_retV X1 hx hlk e1 hret (hb hby d7_76) (by decide) (by decide) ⟨rfl, N1, Z1, g, A1, K1, P1⟩
set_option maxRecDepth 65536 in
set_option maxHeartbeats 40000000 in
theorem met6_2 (l : Launch) (Z : State) (a0 : Array Value) (hw : ∀ d ∈ tables_1, d.before a0 Z = true) (x0 : Int32) (x1 : Int32) (x2 : Int32) (nw : Nat) (h0 : Heap) (n0 : Nat) (Z0 : n0 ≤ h0.size) (hq0 : x1 = 0) (hq1 : x2 = 2) (hz : x0.toInt = (nw : Int)) (hnw : 2 ≤ nw) :
    own_Met l Z (⟨"java/util/Arrays", "rangeCheck", "(III)V"⟩ : MethodName) jdk_65_method_30_code 3 none { frames := 0, cells := 0, slots := 0, locals := 0 } #[(.int x0), (.int x1), (.int x2)] h0 (fun v h L => v = none ∧ Fr n0 L ∧ n0 ≤ h.size ∧ h = h0) := by
  refine own_met pn_6 ?_
  intro p e s m below meth c T0 X0 hx hby hml hown hZ e0 hret hlk hnm
  rw [ef_6 m x0 x1 x2]
  have N0 := Fr.nil n0
  subst hq0 hq1
  have kk : (2 : Int32).toInt = 2 := by decide
  show own_Fin _ _ _ _ _ _ _ (T0.setTop (mkF m 0 #[.val (.int x0), .val (.int (0 : Int32)), .val (.int (2 : Int32))] []))
  refine own_of (fun _ kk => XS.iloadN X0.here hx rfl (hb hby d6_0) rfl kk) ?_
  show own_Fin _ _ _ _ _ _ _ (T0.setTop (mkF m 1 #[.val (.int x0), .val (.int (0 : Int32)), .val (.int (2 : Int32))] [(.int (0 : Int32))]))
  refine own_of (fun _ kk => XS.iloadN X0.here hx rfl (hb hby d6_1) rfl kk) ?_
  show own_Fin _ _ _ _ _ _ _ (T0.setTop (mkF m 2 #[.val (.int x0), .val (.int (0 : Int32)), .val (.int (2 : Int32))] [(.int (2 : Int32)), (.int (0 : Int32))]))
  refine own_of (fun _ kk => XS.icmpYes X0.here hx rfl (pc0 := 2) (pc' := 46) rfl (hb hby d6_2) rfl (flt (by decide : ¬ ((2 : Int32) < (0 : Int32)))).2.2.2 (by decide) (by decide) kk) ?_
  show own_Fin _ _ _ _ _ _ _ (T0.setTop (mkF m 46 #[.val (.int x0), .val (.int (0 : Int32)), .val (.int (2 : Int32))] []))
  refine own_of (fun _ kk => XS.iloadN X0.here hx rfl (hb hby d6_46) rfl kk) ?_
  show own_Fin _ _ _ _ _ _ _ (T0.setTop (mkF m 47 #[.val (.int x0), .val (.int (0 : Int32)), .val (.int (2 : Int32))] [(.int (0 : Int32))]))
  refine own_of (fun _ kk => XS.ifYes X0.here hx rfl (pc0 := 47) (pc' := 59) rfl (hb hby d6_47) rfl ((if0 _ _).trans (flt (by decide : ¬ ((0 : Int32) < (0 : Int32)))).2.1) (by decide) (by decide) kk) ?_
  show own_Fin _ _ _ _ _ _ _ (T0.setTop (mkF m 59 #[.val (.int x0), .val (.int (0 : Int32)), .val (.int (2 : Int32))] []))
  refine own_of (fun _ kk => XS.iloadN X0.here hx rfl (hb hby d6_59) rfl kk) ?_
  show own_Fin _ _ _ _ _ _ _ (T0.setTop (mkF m 60 #[.val (.int x0), .val (.int (0 : Int32)), .val (.int (2 : Int32))] [(.int (2 : Int32))]))
  refine own_of (fun _ kk => XS.iloadN X0.here hx rfl (hb hby d6_60) rfl kk) ?_
  show own_Fin _ _ _ _ _ _ _ (T0.setTop (mkF m 61 #[.val (.int x0), .val (.int (0 : Int32)), .val (.int (2 : Int32))] [(.int x0), (.int (2 : Int32))]))
  refine own_of (fun _ kk => XS.icmpYes X0.here hx rfl (pc0 := 61) (pc' := 73) rfl (hb hby d6_61) rfl (flt (by rw [Int32.lt_iff_toInt_lt]; omega)).2.2.2 (by decide) (by decide) kk) ?_
  show own_Fin _ _ _ _ _ _ _ (T0.setTop (mkF m 73 #[.val (.int x0), .val (.int (0 : Int32)), .val (.int (2 : Int32))] []))
  exact own_retV X0 hx hlk e0 hret (hb hby d6_73) (by decide) (by decide) ⟨rfl, N0, Z0, rfl⟩
set_option maxRecDepth 65536 in
set_option maxHeartbeats 40000000 in
theorem met5_2 (l : Launch) (Z : State) (a0 : Array Value) (hw : ∀ d ∈ tables_1, d.before a0 Z = true) (x0 : Addr) (x1 : Int32) (x2 : Int32) (nw : Nat) (f : Nat → Int32) (zw : Int32) (h0 : Heap) (n0 : Nat) (Z0 : n0 ≤ h0.size) (hq0 : x1 = 0) (hq1 : x2 = 2) (A : own_Arf Z h0 x0 .int nw (fun j => .int (f j))) (ge : n0 ≤ x0) (hnw : 2 ≤ nw) (hz : zw.toInt = (nw : Int)) :
    own_Met l Z (⟨"java/util/Arrays", "sort", "([III)V"⟩ : MethodName) jdk_65_method_3_code 3 none { frames := 3, cells := 0, slots := 0, locals := 67 } #[(.ref x0), (.int x1), (.int x2)] h0 (fun v h L => v = none ∧ Fr n0 L ∧ n0 ≤ h.size ∧ ∃ g : Nat → Int32, own_Arf Z h x0 .int nw (fun j => .int (g j)) ∧ Keep h0 h [x0] ∧ own_Perm 2 f g) := by
  refine own_met pn_5 ?_
  intro p e s m below meth c T0 X0 hx hby hml hown hZ e0 hret hlk hnm
  rw [ef_5 m x0 x1 x2]
  have N0 := Fr.nil n0
  subst hq0 hq1
  show own_Fin _ _ _ _ _ _ _ (T0.setTop (mkF m 0 #[.val (.ref x0), .val (.int (0 : Int32)), .val (.int (2 : Int32))] []))
  refine own_of (fun _ kk => XS.aloadN X0.here hx rfl (hb hby d5_0) rfl rfl kk) ?_
  show own_Fin _ _ _ _ _ _ _ (T0.setTop (mkF m 1 #[.val (.ref x0), .val (.int (0 : Int32)), .val (.int (2 : Int32))] [(.ref x0)]))
  refine own_arraylength X0 hx hZ e0 A (z := zw) hz (hb hby d5_1) ?_
  show own_Fin _ _ _ _ _ _ _ (T0.setTop (mkF m 2 #[.val (.ref x0), .val (.int (0 : Int32)), .val (.int (2 : Int32))] [(.int zw)]))
  refine own_of (fun _ kk => XS.iloadN X0.here hx rfl (hb hby d5_2) rfl kk) ?_
  show own_Fin _ _ _ _ _ _ _ (T0.setTop (mkF m 3 #[.val (.ref x0), .val (.int (0 : Int32)), .val (.int (2 : Int32))] [(.int (0 : Int32)), (.int zw)]))
  refine own_of (fun _ kk => XS.iloadN X0.here hx rfl (hb hby d5_3) rfl kk) ?_
  show own_Fin _ _ _ _ _ _ _ (T0.setTop (mkF m 4 #[.val (.ref x0), .val (.int (0 : Int32)), .val (.int (2 : Int32))] [(.int (2 : Int32)), (.int (0 : Int32)), (.int zw)]))
  refine own_callS X0 hx hZ hown (hw _ (List.mem_of_getElem? (i := 36) rfl)) (hw _ (List.mem_of_getElem? (i := 37) rfl)) (hw _ (List.mem_of_getElem? (i := 34) rfl)) (hw _ (List.mem_of_getElem? (i := 38) rfl)) (by decide) e0 (argsL := [(.int zw), (.int (0 : Int32)), (.int (2 : Int32))]) (met6_2 l Z a0 hw zw 0 2 nw h0 n0 Z0 rfl rfl hz hnw) (W := 0) (by decide) (by decide) (by decide) (by decide) (by rw [hml]; rfl) pd_5 rfl (rest := []) rfl (Nat.le_of_eq rfl) (hb hby d5_4) ?_
  intro v1 T1 h1 L1 X1 e1 q1
  obtain ⟨rfl, N1q, Z1, qh1⟩ := q1
  have N1 := Fr.app N0 N1q
  show own_Fin _ _ _ _ _ _ _ (T1.setTop (mkF m 7 #[.val (.ref x0), .val (.int (0 : Int32)), .val (.int (2 : Int32))] []))
  rw [qh1] at e1
  refine own_of (fun _ kk => XS.aloadN X1.here hx rfl (hb hby d5_7) rfl rfl kk) ?_
  show own_Fin _ _ _ _ _ _ _ (T1.setTop (mkF m 8 #[.val (.ref x0), .val (.int (0 : Int32)), .val (.int (2 : Int32))] [(.ref x0)]))
  refine own_of (fun _ kk => XS.iconst X1.here hx rfl (hb hby d5_8) kk) ?_
  show own_Fin _ _ _ _ _ _ _ (T1.setTop (mkF m 9 #[.val (.ref x0), .val (.int (0 : Int32)), .val (.int (2 : Int32))] [(.int (0 : Int32)), (.ref x0)]))
  refine own_of (fun _ kk => XS.iloadN X1.here hx rfl (hb hby d5_9) rfl kk) ?_
  show own_Fin _ _ _ _ _ _ _ (T1.setTop (mkF m 10 #[.val (.ref x0), .val (.int (0 : Int32)), .val (.int (2 : Int32))] [(.int (0 : Int32)), (.int (0 : Int32)), (.ref x0)]))
  refine own_of (fun _ kk => XS.iloadN X1.here hx rfl (hb hby d5_10) rfl kk) ?_
  show own_Fin _ _ _ _ _ _ _ (T1.setTop (mkF m 11 #[.val (.ref x0), .val (.int (0 : Int32)), .val (.int (2 : Int32))] [(.int (2 : Int32)), (.int (0 : Int32)), (.int (0 : Int32)), (.ref x0)]))
  refine own_callS X1 hx hZ hown (hw _ (List.mem_of_getElem? (i := 39) rfl)) (hw _ (List.mem_of_getElem? (i := 40) rfl)) (hw _ (List.mem_of_getElem? (i := 41) rfl)) (hw _ (List.mem_of_getElem? (i := 42) rfl)) (by decide) e1 (argsL := [(.ref x0), (.int (0 : Int32)), (.int (0 : Int32)), (.int (2 : Int32))]) (met7_2 l Z a0 hw x0 0 0 2 nw f h0 n0 Z0 rfl rfl rfl A ge hnw) (W := 0) (by decide) (by decide) (by decide) (by decide) (by rw [hml]; rfl) pd_11 rfl (rest := []) rfl (Nat.le_of_eq rfl) (hb hby d5_11) ?_
  intro v2 T2 h2 L2 X2 e2 q2
  obtain ⟨rfl, N2q, Z2, g, A2, K2, P2⟩ := q2
  have N2 := Fr.app N1 N2q
  show own_Fin _ _ _ _ _ _ _ (T2.setTop (mkF m 14 #[.val (.ref x0), .val (.int (0 : Int32)), .val (.int (2 : Int32))] []))
  exact own_retV X2 hx hlk e2 hret (hb hby d5_14) (by decide) (by decide) ⟨rfl, N2, Z2, g, A2, K2, P2⟩
set_option maxRecDepth 65536 in
set_option maxHeartbeats 40000000 in
theorem met8_3 (l : Launch) (Z : State) (a0 : Array Value) (hw : ∀ d ∈ tables_1, d.before a0 Z = true) (x1 : Addr) (x2 : Int32) (x3 : Int32) (x4 : Int32) (nw : Nat) (f : Nat → Int32) (h0 : Heap) (n0 : Nat) (Z0 : n0 ≤ h0.size) (hq0 : x2 = 0) (hq1 : x3 = 0) (hq2 : x4 = 3) (A : own_Arf Z h0 x1 .int nw (fun j => .int (f j))) (ge : n0 ≤ x1) (hnw : 3 ≤ nw) :
    own_Met l Z (⟨"java/util/DualPivotQuicksort", "sort", "(Ljava/util/DualPivotQuicksort$Sorter;[IIII)V"⟩ : MethodName) jdk_2529_method_4_code 21 none { frames := 1, cells := 0, slots := 0, locals := 17 } #[.null, (.ref x1), (.int x2), (.int x3), (.int x4)] h0 (fun v h L => v = none ∧ Fr n0 L ∧ n0 ≤ h.size ∧ ∃ g : Nat → Int32, own_Arf Z h x1 .int nw (fun j => .int (g j)) ∧ Keep h0 h [x1] ∧ own_Perm 3 f g) := by
  refine own_met pn_8 ?_
  intro p e s m below meth c T0 X0 hx hby hml hown hZ e0 hret hlk hnm
  rw [ef_8 m x1 x2 x3 x4]
  have N0 := Fr.nil n0
  subst hq0 hq1 hq2
  show own_Fin _ _ _ _ _ _ _ (T0.setTop (mkF m 0 #[.val .null, .val (.ref x1), .val (.int (0 : Int32)), .val (.int (0 : Int32)), .val (.int (3 : Int32)), .unset, .unset, .unset, .unset, .unset, .unset, .unset, .unset, .unset, .unset, .unset, .unset, .unset, .unset, .unset, .unset] []))
  refine own_of (fun _ kk => XS.iload X0.here hx rfl (hb hby d8_0) rfl kk) ?_
  show own_Fin _ _ _ _ _ _ _ (T0.setTop (mkF m 2 #[.val .null, .val (.ref x1), .val (.int (0 : Int32)), .val (.int (0 : Int32)), .val (.int (3 : Int32)), .unset, .unset, .unset, .unset, .unset, .unset, .unset, .unset, .unset, .unset, .unset, .unset, .unset, .unset, .unset, .unset] [(.int (3 : Int32))]))
  refine own_of (fun _ kk => XS.iconst X0.here hx rfl (hb hby d8_2) kk) ?_
  show own_Fin _ _ _ _ _ _ _ (T0.setTop (mkF m 3 #[.val .null, .val (.ref x1), .val (.int (0 : Int32)), .val (.int (0 : Int32)), .val (.int (3 : Int32)), .unset, .unset, .unset, .unset, .unset, .unset, .unset, .unset, .unset, .unset, .unset, .unset, .unset, .unset, .unset, .unset] [(.int (1 : Int32)), (.int (3 : Int32))]))
  refine own_of (fun _ kk => XS.isub X0.here hx rfl (hb hby d8_3) rfl kk) ?_
  show own_Fin _ _ _ _ _ _ _ (T0.setTop (mkF m 4 #[.val .null, .val (.ref x1), .val (.int (0 : Int32)), .val (.int (0 : Int32)), .val (.int (3 : Int32)), .unset, .unset, .unset, .unset, .unset, .unset, .unset, .unset, .unset, .unset, .unset, .unset, .unset, .unset, .unset, .unset] [(.int (2 : Int32))]))
  refine own_of (fun _ kk => XS.istore X0.here hx rfl (hb hby d8_4) rfl (l' := #[.val .null, .val (.ref x1), .val (.int (0 : Int32)), .val (.int (0 : Int32)), .val (.int (3 : Int32)), .val (.int (2 : Int32)), .unset, .unset, .unset, .unset, .unset, .unset, .unset, .unset, .unset, .unset, .unset, .unset, .unset, .unset, .unset]) rfl kk) ?_
  show own_Fin _ _ _ _ _ _ _ (T0.setTop (mkF m 6 #[.val .null, .val (.ref x1), .val (.int (0 : Int32)), .val (.int (0 : Int32)), .val (.int (3 : Int32)), .val (.int (2 : Int32)), .unset, .unset, .unset, .unset, .unset, .unset, .unset, .unset, .unset, .unset, .unset, .unset, .unset, .unset, .unset] []))
  refine own_of (fun _ kk => XS.iload X0.here hx rfl (hb hby d8_6) rfl kk) ?_
  show own_Fin _ _ _ _ _ _ _ (T0.setTop (mkF m 8 #[.val .null, .val (.ref x1), .val (.int (0 : Int32)), .val (.int (0 : Int32)), .val (.int (3 : Int32)), .val (.int (2 : Int32)), .unset, .unset, .unset, .unset, .unset, .unset, .unset, .unset, .unset, .unset, .unset, .unset, .unset, .unset, .unset] [(.int (3 : Int32))]))
  refine own_of (fun _ kk => XS.iloadN X0.here hx rfl (hb hby d8_8) rfl kk) ?_
  show own_Fin _ _ _ _ _ _ _ (T0.setTop (mkF m 9 #[.val .null, .val (.ref x1), .val (.int (0 : Int32)), .val (.int (0 : Int32)), .val (.int (3 : Int32)), .val (.int (2 : Int32)), .unset, .unset, .unset, .unset, .unset, .unset, .unset, .unset, .unset, .unset, .unset, .unset, .unset, .unset, .unset] [(.int (0 : Int32)), (.int (3 : Int32))]))
  refine own_of (fun _ kk => XS.isub X0.here hx rfl (hb hby d8_9) rfl kk) ?_
  show own_Fin _ _ _ _ _ _ _ (T0.setTop (mkF m 10 #[.val .null, .val (.ref x1), .val (.int (0 : Int32)), .val (.int (0 : Int32)), .val (.int (3 : Int32)), .val (.int (2 : Int32)), .unset, .unset, .unset, .unset, .unset, .unset, .unset, .unset, .unset, .unset, .unset, .unset, .unset, .unset, .unset] [(.int (3 : Int32))]))
  refine own_of (fun _ kk => XS.istore X0.here hx rfl (hb hby d8_10) rfl (l' := #[.val .null, .val (.ref x1), .val (.int (0 : Int32)), .val (.int (0 : Int32)), .val (.int (3 : Int32)), .val (.int (2 : Int32)), .val (.int (3 : Int32)), .unset, .unset, .unset, .unset, .unset, .unset, .unset, .unset, .unset, .unset, .unset, .unset, .unset, .unset]) rfl kk) ?_
  show own_Fin _ _ _ _ _ _ _ (T0.setTop (mkF m 12 #[.val .null, .val (.ref x1), .val (.int (0 : Int32)), .val (.int (0 : Int32)), .val (.int (3 : Int32)), .val (.int (2 : Int32)), .val (.int (3 : Int32)), .unset, .unset, .unset, .unset, .unset, .unset, .unset, .unset, .unset, .unset, .unset, .unset, .unset, .unset] []))
  refine own_of (fun _ kk => XS.iload X0.here hx rfl (hb hby d8_12) rfl kk) ?_
  show own_Fin _ _ _ _ _ _ _ (T0.setTop (mkF m 14 #[.val .null, .val (.ref x1), .val (.int (0 : Int32)), .val (.int (0 : Int32)), .val (.int (3 : Int32)), .val (.int (2 : Int32)), .val (.int (3 : Int32)), .unset, .unset, .unset, .unset, .unset, .unset, .unset, .unset, .unset, .unset, .unset, .unset, .unset, .unset] [(.int (3 : Int32))]))
  refine own_of (fun _ kk => XS.bipush X0.here hx rfl (hb hby d8_14) kk) ?_
  show own_Fin _ _ _ _ _ _ _ (T0.setTop (mkF m 16 #[.val .null, .val (.ref x1), .val (.int (0 : Int32)), .val (.int (0 : Int32)), .val (.int (3 : Int32)), .val (.int (2 : Int32)), .val (.int (3 : Int32)), .unset, .unset, .unset, .unset, .unset, .unset, .unset, .unset, .unset, .unset, .unset, .unset, .unset, .unset] [(.int (65 : Int32)), (.int (3 : Int32))]))
  refine own_of (fun _ kk => XS.iloadN X0.here hx rfl (hb hby d8_16) rfl kk) ?_
  show own_Fin _ _ _ _ _ _ _ (T0.setTop (mkF m 17 #[.val .null, .val (.ref x1), .val (.int (0 : Int32)), .val (.int (0 : Int32)), .val (.int (3 : Int32)), .val (.int (2 : Int32)), .val (.int (3 : Int32)), .unset, .unset, .unset, .unset, .unset, .unset, .unset, .unset, .unset, .unset, .unset, .unset, .unset, .unset] [(.int (0 : Int32)), (.int (65 : Int32)), (.int (3 : Int32))]))
  refine own_of (fun _ kk => XS.iadd X0.here hx rfl (hb hby d8_17) rfl kk) ?_
  show own_Fin _ _ _ _ _ _ _ (T0.setTop (mkF m 18 #[.val .null, .val (.ref x1), .val (.int (0 : Int32)), .val (.int (0 : Int32)), .val (.int (3 : Int32)), .val (.int (2 : Int32)), .val (.int (3 : Int32)), .unset, .unset, .unset, .unset, .unset, .unset, .unset, .unset, .unset, .unset, .unset, .unset, .unset, .unset] [(.int (65 : Int32)), (.int (3 : Int32))]))
  refine own_of (fun _ kk => XS.icmpNo X0.here hx rfl (hb hby d8_18) rfl (tlt (by decide : ((3 : Int32) < (65 : Int32)))).2.1 kk) ?_
  show own_Fin _ _ _ _ _ _ _ (T0.setTop (mkF m 21 #[.val .null, .val (.ref x1), .val (.int (0 : Int32)), .val (.int (0 : Int32)), .val (.int (3 : Int32)), .val (.int (2 : Int32)), .val (.int (3 : Int32)), .unset, .unset, .unset, .unset, .unset, .unset, .unset, .unset, .unset, .unset, .unset, .unset, .unset, .unset] []))
  refine own_of (fun _ kk => XS.iloadN X0.here hx rfl (hb hby d8_21) rfl kk) ?_
  show own_Fin _ _ _ _ _ _ _ (T0.setTop (mkF m 22 #[.val .null, .val (.ref x1), .val (.int (0 : Int32)), .val (.int (0 : Int32)), .val (.int (3 : Int32)), .val (.int (2 : Int32)), .val (.int (3 : Int32)), .unset, .unset, .unset, .unset, .unset, .unset, .unset, .unset, .unset, .unset, .unset, .unset, .unset, .unset] [(.int (0 : Int32))]))
  refine own_of (fun _ kk => XS.iconst X0.here hx rfl (hb hby d8_22) kk) ?_
  show own_Fin _ _ _ _ _ _ _ (T0.setTop (mkF m 23 #[.val .null, .val (.ref x1), .val (.int (0 : Int32)), .val (.int (0 : Int32)), .val (.int (3 : Int32)), .val (.int (2 : Int32)), .val (.int (3 : Int32)), .unset, .unset, .unset, .unset, .unset, .unset, .unset, .unset, .unset, .unset, .unset, .unset, .unset, .unset] [(.int (1 : Int32)), (.int (0 : Int32))]))
  refine own_of (fun _ kk => XS.iand X0.here hx rfl (hb hby d8_23) rfl kk) ?_
  show own_Fin _ _ _ _ _ _ _ (T0.setTop (mkF m 24 #[.val .null, .val (.ref x1), .val (.int (0 : Int32)), .val (.int (0 : Int32)), .val (.int (3 : Int32)), .val (.int (2 : Int32)), .val (.int (3 : Int32)), .unset, .unset, .unset, .unset, .unset, .unset, .unset, .unset, .unset, .unset, .unset, .unset, .unset, .unset] [(.int (0 : Int32))]))
  refine own_of (fun _ kk => XS.ifYes X0.here hx rfl (pc0 := 24) (pc' := 46) rfl (hb hby d8_24) rfl ((if0 _ _).trans (flt (by decide : ¬ ((0 : Int32) < (0 : Int32)))).2.2.2) (by decide) (by decide) kk) ?_
  show own_Fin _ _ _ _ _ _ _ (T0.setTop (mkF m 46 #[.val .null, .val (.ref x1), .val (.int (0 : Int32)), .val (.int (0 : Int32)), .val (.int (3 : Int32)), .val (.int (2 : Int32)), .val (.int (3 : Int32)), .unset, .unset, .unset, .unset, .unset, .unset, .unset, .unset, .unset, .unset, .unset, .unset, .unset, .unset] []))
  refine own_of (fun _ kk => XS.iload X0.here hx rfl (hb hby d8_46) rfl kk) ?_
  show own_Fin _ _ _ _ _ _ _ (T0.setTop (mkF m 48 #[.val .null, .val (.ref x1), .val (.int (0 : Int32)), .val (.int (0 : Int32)), .val (.int (3 : Int32)), .val (.int (2 : Int32)), .val (.int (3 : Int32)), .unset, .unset, .unset, .unset, .unset, .unset, .unset, .unset, .unset, .unset, .unset, .unset, .unset, .unset] [(.int (3 : Int32))]))
  refine own_of (fun _ kk => XS.bipush X0.here hx rfl (hb hby d8_48) kk) ?_
  show own_Fin _ _ _ _ _ _ _ (T0.setTop (mkF m 50 #[.val .null, .val (.ref x1), .val (.int (0 : Int32)), .val (.int (0 : Int32)), .val (.int (3 : Int32)), .val (.int (2 : Int32)), .val (.int (3 : Int32)), .unset, .unset, .unset, .unset, .unset, .unset, .unset, .unset, .unset, .unset, .unset, .unset, .unset, .unset] [(.int (44 : Int32)), (.int (3 : Int32))]))
  refine own_of (fun _ kk => XS.icmpNo X0.here hx rfl (hb hby d8_50) rfl (tlt (by decide : ((3 : Int32) < (44 : Int32)))).2.1 kk) ?_
  show own_Fin _ _ _ _ _ _ _ (T0.setTop (mkF m 53 #[.val .null, .val (.ref x1), .val (.int (0 : Int32)), .val (.int (0 : Int32)), .val (.int (3 : Int32)), .val (.int (2 : Int32)), .val (.int (3 : Int32)), .unset, .unset, .unset, .unset, .unset, .unset, .unset, .unset, .unset, .unset, .unset, .unset, .unset, .unset] []))
  refine own_of (fun _ kk => XS.aloadN X0.here hx rfl (hb hby d8_53) rfl rfl kk) ?_
  show own_Fin _ _ _ _ _ _ _ (T0.setTop (mkF m 54 #[.val .null, .val (.ref x1), .val (.int (0 : Int32)), .val (.int (0 : Int32)), .val (.int (3 : Int32)), .val (.int (2 : Int32)), .val (.int (3 : Int32)), .unset, .unset, .unset, .unset, .unset, .unset, .unset, .unset, .unset, .unset, .unset, .unset, .unset, .unset] [(.ref x1)]))
  refine own_of (fun _ kk => XS.iloadN X0.here hx rfl (hb hby d8_54) rfl kk) ?_
  show own_Fin _ _ _ _ _ _ _ (T0.setTop (mkF m 55 #[.val .null, .val (.ref x1), .val (.int (0 : Int32)), .val (.int (0 : Int32)), .val (.int (3 : Int32)), .val (.int (2 : Int32)), .val (.int (3 : Int32)), .unset, .unset, .unset, .unset, .unset, .unset, .unset, .unset, .unset, .unset, .unset, .unset, .unset, .unset] [(.int (0 : Int32)), (.ref x1)]))
  refine own_of (fun _ kk => XS.iload X0.here hx rfl (hb hby d8_55) rfl kk) ?_
  show own_Fin _ _ _ _ _ _ _ (T0.setTop (mkF m 57 #[.val .null, .val (.ref x1), .val (.int (0 : Int32)), .val (.int (0 : Int32)), .val (.int (3 : Int32)), .val (.int (2 : Int32)), .val (.int (3 : Int32)), .unset, .unset, .unset, .unset, .unset, .unset, .unset, .unset, .unset, .unset, .unset, .unset, .unset, .unset] [(.int (3 : Int32)), (.int (0 : Int32)), (.ref x1)]))
  refine own_callS X0 hx hZ hown (hw _ (List.mem_of_getElem? (i := 46) rfl)) (hw _ (List.mem_of_getElem? (i := 47) rfl)) (hw _ (List.mem_of_getElem? (i := 41) rfl)) (hw _ (List.mem_of_getElem? (i := 48) rfl)) (by decide) e0 (argsL := [(.ref x1), (.int (0 : Int32)), (.int (3 : Int32))]) (met9_3 l Z a0 hw x1 0 3 nw f h0 n0 Z0 rfl rfl A ge hnw) (W := 0) (by decide) (by decide) (by decide) (by decide) (by rw [hml]; rfl) pd_10 rfl (rest := []) rfl (Nat.le_of_eq rfl) (hb hby d8_57) ?_
  intro v1 T1 h1 L1 X1 e1 q1
  obtain ⟨rfl, N1q, Z1, g, A1, K1, P1⟩ := q1
  have N1 := Fr.app N0 N1q
  show own_Fin _ _ _ _ _ _ _ (T1.setTop (mkF m 60 #[.val .null, .val (.ref x1), .val (.int (0 : Int32)), .val (.int (0 : Int32)), .val (.int (3 : Int32)), .val (.int (2 : Int32)), .val (.int (3 : Int32)), .unset, .unset, .unset, .unset, .unset, .unset, .unset, .unset, .unset, .unset, .unset, .unset, .unset, .unset] []))
  exact own_retV X1 hx hlk e1 hret (hb hby d8_60) (by decide) (by decide) ⟨rfl, N1, Z1, g, A1, K1, P1⟩
set_option maxRecDepth 65536 in
set_option maxHeartbeats 40000000 in
theorem met7_3 (l : Launch) (Z : State) (a0 : Array Value) (hw : ∀ d ∈ tables_1, d.before a0 Z = true) (x0 : Addr) (x1 : Int32) (x2 : Int32) (x3 : Int32) (nw : Nat) (f : Nat → Int32) (h0 : Heap) (n0 : Nat) (Z0 : n0 ≤ h0.size) (hq0 : x1 = 0) (hq1 : x2 = 0) (hq2 : x3 = 3) (A : own_Arf Z h0 x0 .int nw (fun j => .int (f j))) (ge : n0 ≤ x0) (hnw : 3 ≤ nw) :
    own_Met l Z (⟨"java/util/DualPivotQuicksort", "sort", "([IIII)V"⟩ : MethodName) jdk_2529_method_3_code 7 none { frames := 2, cells := 0, slots := 0, locals := 49 } #[(.ref x0), (.int x1), (.int x2), (.int x3)] h0 (fun v h L => v = none ∧ Fr n0 L ∧ n0 ≤ h.size ∧ ∃ g : Nat → Int32, own_Arf Z h x0 .int nw (fun j => .int (g j)) ∧ Keep h0 h [x0] ∧ own_Perm 3 f g) := by
  refine own_met pn_7 ?_
  intro p e s m below meth c T0 X0 hx hby hml hown hZ e0 hret hlk hnm
  rw [ef_7 m x0 x1 x2 x3]
  have N0 := Fr.nil n0
  subst hq0 hq1 hq2
  show own_Fin _ _ _ _ _ _ _ (T0.setTop (mkF m 0 #[.val (.ref x0), .val (.int (0 : Int32)), .val (.int (0 : Int32)), .val (.int (3 : Int32)), .unset, .unset, .unset] []))
  refine own_of (fun _ kk => XS.iloadN X0.here hx rfl (hb hby d7_0) rfl kk) ?_
  show own_Fin _ _ _ _ _ _ _ (T0.setTop (mkF m 1 #[.val (.ref x0), .val (.int (0 : Int32)), .val (.int (0 : Int32)), .val (.int (3 : Int32)), .unset, .unset, .unset] [(.int (3 : Int32))]))
  refine own_of (fun _ kk => XS.iloadN X0.here hx rfl (hb hby d7_1) rfl kk) ?_
  show own_Fin _ _ _ _ _ _ _ (T0.setTop (mkF m 2 #[.val (.ref x0), .val (.int (0 : Int32)), .val (.int (0 : Int32)), .val (.int (3 : Int32)), .unset, .unset, .unset] [(.int (0 : Int32)), (.int (3 : Int32))]))
  refine own_of (fun _ kk => XS.isub X0.here hx rfl (hb hby d7_2) rfl kk) ?_
  show own_Fin _ _ _ _ _ _ _ (T0.setTop (mkF m 3 #[.val (.ref x0), .val (.int (0 : Int32)), .val (.int (0 : Int32)), .val (.int (3 : Int32)), .unset, .unset, .unset] [(.int (3 : Int32))]))
  refine own_of (fun _ kk => XS.istore X0.here hx rfl (hb hby d7_3) rfl (l' := #[.val (.ref x0), .val (.int (0 : Int32)), .val (.int (0 : Int32)), .val (.int (3 : Int32)), .val (.int (3 : Int32)), .unset, .unset]) rfl kk) ?_
  show own_Fin _ _ _ _ _ _ _ (T0.setTop (mkF m 5 #[.val (.ref x0), .val (.int (0 : Int32)), .val (.int (0 : Int32)), .val (.int (3 : Int32)), .val (.int (3 : Int32)), .unset, .unset] []))
  refine own_of (fun _ kk => XS.iloadN X0.here hx rfl (hb hby d7_5) rfl kk) ?_
  show own_Fin _ _ _ _ _ _ _ (T0.setTop (mkF m 6 #[.val (.ref x0), .val (.int (0 : Int32)), .val (.int (0 : Int32)), .val (.int (3 : Int32)), .val (.int (3 : Int32)), .unset, .unset] [(.int (0 : Int32))]))
  refine own_of (fun _ kk => XS.iconst X0.here hx rfl (hb hby d7_6) kk) ?_
  show own_Fin _ _ _ _ _ _ _ (T0.setTop (mkF m 7 #[.val (.ref x0), .val (.int (0 : Int32)), .val (.int (0 : Int32)), .val (.int (3 : Int32)), .val (.int (3 : Int32)), .unset, .unset] [(.int (1 : Int32)), (.int (0 : Int32))]))
  refine own_of (fun _ kk => XS.icmpYes X0.here hx rfl (pc0 := 7) (pc' := 68) rfl (hb hby d7_7) rfl (flt (by decide : ¬ ((1 : Int32) < (0 : Int32)))).2.2.2 (by decide) (by decide) kk) ?_
  show own_Fin _ _ _ _ _ _ _ (T0.setTop (mkF m 68 #[.val (.ref x0), .val (.int (0 : Int32)), .val (.int (0 : Int32)), .val (.int (3 : Int32)), .val (.int (3 : Int32)), .unset, .unset] []))
  refine own_of (fun _ kk => XS.aconstNull X0.here hx rfl (hb hby d7_68) kk) ?_
  show own_Fin _ _ _ _ _ _ _ (T0.setTop (mkF m 69 #[.val (.ref x0), .val (.int (0 : Int32)), .val (.int (0 : Int32)), .val (.int (3 : Int32)), .val (.int (3 : Int32)), .unset, .unset] [.null]))
  refine own_of (fun _ kk => XS.aloadN X0.here hx rfl (hb hby d7_69) rfl rfl kk) ?_
  show own_Fin _ _ _ _ _ _ _ (T0.setTop (mkF m 70 #[.val (.ref x0), .val (.int (0 : Int32)), .val (.int (0 : Int32)), .val (.int (3 : Int32)), .val (.int (3 : Int32)), .unset, .unset] [(.ref x0), .null]))
  refine own_of (fun _ kk => XS.iconst X0.here hx rfl (hb hby d7_70) kk) ?_
  show own_Fin _ _ _ _ _ _ _ (T0.setTop (mkF m 71 #[.val (.ref x0), .val (.int (0 : Int32)), .val (.int (0 : Int32)), .val (.int (3 : Int32)), .val (.int (3 : Int32)), .unset, .unset] [(.int (0 : Int32)), (.ref x0), .null]))
  refine own_of (fun _ kk => XS.iloadN X0.here hx rfl (hb hby d7_71) rfl kk) ?_
  show own_Fin _ _ _ _ _ _ _ (T0.setTop (mkF m 72 #[.val (.ref x0), .val (.int (0 : Int32)), .val (.int (0 : Int32)), .val (.int (3 : Int32)), .val (.int (3 : Int32)), .unset, .unset] [(.int (0 : Int32)), (.int (0 : Int32)), (.ref x0), .null]))
  refine own_of (fun _ kk => XS.iloadN X0.here hx rfl (hb hby d7_72) rfl kk) ?_
  show own_Fin _ _ _ _ _ _ _ (T0.setTop (mkF m 73 #[.val (.ref x0), .val (.int (0 : Int32)), .val (.int (0 : Int32)), .val (.int (3 : Int32)), .val (.int (3 : Int32)), .unset, .unset] [(.int (3 : Int32)), (.int (0 : Int32)), (.int (0 : Int32)), (.ref x0), .null]))
  refine own_callS X0 hx hZ hown (hw _ (List.mem_of_getElem? (i := 43) rfl)) (hw _ (List.mem_of_getElem? (i := 44) rfl)) (hw _ (List.mem_of_getElem? (i := 41) rfl)) (hw _ (List.mem_of_getElem? (i := 45) rfl)) (by decide) e0 (argsL := [.null, (.ref x0), (.int (0 : Int32)), (.int (0 : Int32)), (.int (3 : Int32))]) (met8_3 l Z a0 hw x0 0 0 3 nw f h0 n0 Z0 rfl rfl rfl A ge hnw) (W := 0) (by decide) (by decide) (by decide) (by decide) (by rw [hml]; rfl) pd_8 rfl (rest := []) rfl (Nat.le_of_eq rfl) (hb hby d7_73) ?_
  intro v1 T1 h1 L1 X1 e1 q1
  obtain ⟨rfl, N1q, Z1, g, A1, K1, P1⟩ := q1
  have N1 := Fr.app N0 N1q
  show own_Fin _ _ _ _ _ _ _ (T1.setTop (mkF m 76 #[.val (.ref x0), .val (.int (0 : Int32)), .val (.int (0 : Int32)), .val (.int (3 : Int32)), .val (.int (3 : Int32)), .unset, .unset] []))
  exact own_retV X1 hx hlk e1 hret (hb hby d7_76) (by decide) (by decide) ⟨rfl, N1, Z1, g, A1, K1, P1⟩
set_option maxRecDepth 65536 in
set_option maxHeartbeats 40000000 in
theorem met6_3 (l : Launch) (Z : State) (a0 : Array Value) (hw : ∀ d ∈ tables_1, d.before a0 Z = true) (x0 : Int32) (x1 : Int32) (x2 : Int32) (nw : Nat) (h0 : Heap) (n0 : Nat) (Z0 : n0 ≤ h0.size) (hq0 : x1 = 0) (hq1 : x2 = 3) (hz : x0.toInt = (nw : Int)) (hnw : 3 ≤ nw) :
    own_Met l Z (⟨"java/util/Arrays", "rangeCheck", "(III)V"⟩ : MethodName) jdk_65_method_30_code 3 none { frames := 0, cells := 0, slots := 0, locals := 0 } #[(.int x0), (.int x1), (.int x2)] h0 (fun v h L => v = none ∧ Fr n0 L ∧ n0 ≤ h.size ∧ h = h0) := by
  refine own_met pn_6 ?_
  intro p e s m below meth c T0 X0 hx hby hml hown hZ e0 hret hlk hnm
  rw [ef_6 m x0 x1 x2]
  have N0 := Fr.nil n0
  subst hq0 hq1
  have kk : (3 : Int32).toInt = 3 := by decide
  show own_Fin _ _ _ _ _ _ _ (T0.setTop (mkF m 0 #[.val (.int x0), .val (.int (0 : Int32)), .val (.int (3 : Int32))] []))
  refine own_of (fun _ kk => XS.iloadN X0.here hx rfl (hb hby d6_0) rfl kk) ?_
  show own_Fin _ _ _ _ _ _ _ (T0.setTop (mkF m 1 #[.val (.int x0), .val (.int (0 : Int32)), .val (.int (3 : Int32))] [(.int (0 : Int32))]))
  refine own_of (fun _ kk => XS.iloadN X0.here hx rfl (hb hby d6_1) rfl kk) ?_
  show own_Fin _ _ _ _ _ _ _ (T0.setTop (mkF m 2 #[.val (.int x0), .val (.int (0 : Int32)), .val (.int (3 : Int32))] [(.int (3 : Int32)), (.int (0 : Int32))]))
  refine own_of (fun _ kk => XS.icmpYes X0.here hx rfl (pc0 := 2) (pc' := 46) rfl (hb hby d6_2) rfl (flt (by decide : ¬ ((3 : Int32) < (0 : Int32)))).2.2.2 (by decide) (by decide) kk) ?_
  show own_Fin _ _ _ _ _ _ _ (T0.setTop (mkF m 46 #[.val (.int x0), .val (.int (0 : Int32)), .val (.int (3 : Int32))] []))
  refine own_of (fun _ kk => XS.iloadN X0.here hx rfl (hb hby d6_46) rfl kk) ?_
  show own_Fin _ _ _ _ _ _ _ (T0.setTop (mkF m 47 #[.val (.int x0), .val (.int (0 : Int32)), .val (.int (3 : Int32))] [(.int (0 : Int32))]))
  refine own_of (fun _ kk => XS.ifYes X0.here hx rfl (pc0 := 47) (pc' := 59) rfl (hb hby d6_47) rfl ((if0 _ _).trans (flt (by decide : ¬ ((0 : Int32) < (0 : Int32)))).2.1) (by decide) (by decide) kk) ?_
  show own_Fin _ _ _ _ _ _ _ (T0.setTop (mkF m 59 #[.val (.int x0), .val (.int (0 : Int32)), .val (.int (3 : Int32))] []))
  refine own_of (fun _ kk => XS.iloadN X0.here hx rfl (hb hby d6_59) rfl kk) ?_
  show own_Fin _ _ _ _ _ _ _ (T0.setTop (mkF m 60 #[.val (.int x0), .val (.int (0 : Int32)), .val (.int (3 : Int32))] [(.int (3 : Int32))]))
  refine own_of (fun _ kk => XS.iloadN X0.here hx rfl (hb hby d6_60) rfl kk) ?_
  show own_Fin _ _ _ _ _ _ _ (T0.setTop (mkF m 61 #[.val (.int x0), .val (.int (0 : Int32)), .val (.int (3 : Int32))] [(.int x0), (.int (3 : Int32))]))
  refine own_of (fun _ kk => XS.icmpYes X0.here hx rfl (pc0 := 61) (pc' := 73) rfl (hb hby d6_61) rfl (flt (by rw [Int32.lt_iff_toInt_lt]; omega)).2.2.2 (by decide) (by decide) kk) ?_
  show own_Fin _ _ _ _ _ _ _ (T0.setTop (mkF m 73 #[.val (.int x0), .val (.int (0 : Int32)), .val (.int (3 : Int32))] []))
  exact own_retV X0 hx hlk e0 hret (hb hby d6_73) (by decide) (by decide) ⟨rfl, N0, Z0, rfl⟩
set_option maxRecDepth 65536 in
set_option maxHeartbeats 40000000 in
theorem met5_3 (l : Launch) (Z : State) (a0 : Array Value) (hw : ∀ d ∈ tables_1, d.before a0 Z = true) (x0 : Addr) (x1 : Int32) (x2 : Int32) (nw : Nat) (f : Nat → Int32) (zw : Int32) (h0 : Heap) (n0 : Nat) (Z0 : n0 ≤ h0.size) (hq0 : x1 = 0) (hq1 : x2 = 3) (A : own_Arf Z h0 x0 .int nw (fun j => .int (f j))) (ge : n0 ≤ x0) (hnw : 3 ≤ nw) (hz : zw.toInt = (nw : Int)) :
    own_Met l Z (⟨"java/util/Arrays", "sort", "([III)V"⟩ : MethodName) jdk_65_method_3_code 3 none { frames := 3, cells := 0, slots := 0, locals := 67 } #[(.ref x0), (.int x1), (.int x2)] h0 (fun v h L => v = none ∧ Fr n0 L ∧ n0 ≤ h.size ∧ ∃ g : Nat → Int32, own_Arf Z h x0 .int nw (fun j => .int (g j)) ∧ Keep h0 h [x0] ∧ own_Perm 3 f g) := by
  refine own_met pn_5 ?_
  intro p e s m below meth c T0 X0 hx hby hml hown hZ e0 hret hlk hnm
  rw [ef_5 m x0 x1 x2]
  have N0 := Fr.nil n0
  subst hq0 hq1
  show own_Fin _ _ _ _ _ _ _ (T0.setTop (mkF m 0 #[.val (.ref x0), .val (.int (0 : Int32)), .val (.int (3 : Int32))] []))
  refine own_of (fun _ kk => XS.aloadN X0.here hx rfl (hb hby d5_0) rfl rfl kk) ?_
  show own_Fin _ _ _ _ _ _ _ (T0.setTop (mkF m 1 #[.val (.ref x0), .val (.int (0 : Int32)), .val (.int (3 : Int32))] [(.ref x0)]))
  refine own_arraylength X0 hx hZ e0 A (z := zw) hz (hb hby d5_1) ?_
  show own_Fin _ _ _ _ _ _ _ (T0.setTop (mkF m 2 #[.val (.ref x0), .val (.int (0 : Int32)), .val (.int (3 : Int32))] [(.int zw)]))
  refine own_of (fun _ kk => XS.iloadN X0.here hx rfl (hb hby d5_2) rfl kk) ?_
  show own_Fin _ _ _ _ _ _ _ (T0.setTop (mkF m 3 #[.val (.ref x0), .val (.int (0 : Int32)), .val (.int (3 : Int32))] [(.int (0 : Int32)), (.int zw)]))
  refine own_of (fun _ kk => XS.iloadN X0.here hx rfl (hb hby d5_3) rfl kk) ?_
  show own_Fin _ _ _ _ _ _ _ (T0.setTop (mkF m 4 #[.val (.ref x0), .val (.int (0 : Int32)), .val (.int (3 : Int32))] [(.int (3 : Int32)), (.int (0 : Int32)), (.int zw)]))
  refine own_callS X0 hx hZ hown (hw _ (List.mem_of_getElem? (i := 36) rfl)) (hw _ (List.mem_of_getElem? (i := 37) rfl)) (hw _ (List.mem_of_getElem? (i := 34) rfl)) (hw _ (List.mem_of_getElem? (i := 38) rfl)) (by decide) e0 (argsL := [(.int zw), (.int (0 : Int32)), (.int (3 : Int32))]) (met6_3 l Z a0 hw zw 0 3 nw h0 n0 Z0 rfl rfl hz hnw) (W := 0) (by decide) (by decide) (by decide) (by decide) (by rw [hml]; rfl) pd_5 rfl (rest := []) rfl (Nat.le_of_eq rfl) (hb hby d5_4) ?_
  intro v1 T1 h1 L1 X1 e1 q1
  obtain ⟨rfl, N1q, Z1, qh1⟩ := q1
  have N1 := Fr.app N0 N1q
  show own_Fin _ _ _ _ _ _ _ (T1.setTop (mkF m 7 #[.val (.ref x0), .val (.int (0 : Int32)), .val (.int (3 : Int32))] []))
  rw [qh1] at e1
  refine own_of (fun _ kk => XS.aloadN X1.here hx rfl (hb hby d5_7) rfl rfl kk) ?_
  show own_Fin _ _ _ _ _ _ _ (T1.setTop (mkF m 8 #[.val (.ref x0), .val (.int (0 : Int32)), .val (.int (3 : Int32))] [(.ref x0)]))
  refine own_of (fun _ kk => XS.iconst X1.here hx rfl (hb hby d5_8) kk) ?_
  show own_Fin _ _ _ _ _ _ _ (T1.setTop (mkF m 9 #[.val (.ref x0), .val (.int (0 : Int32)), .val (.int (3 : Int32))] [(.int (0 : Int32)), (.ref x0)]))
  refine own_of (fun _ kk => XS.iloadN X1.here hx rfl (hb hby d5_9) rfl kk) ?_
  show own_Fin _ _ _ _ _ _ _ (T1.setTop (mkF m 10 #[.val (.ref x0), .val (.int (0 : Int32)), .val (.int (3 : Int32))] [(.int (0 : Int32)), (.int (0 : Int32)), (.ref x0)]))
  refine own_of (fun _ kk => XS.iloadN X1.here hx rfl (hb hby d5_10) rfl kk) ?_
  show own_Fin _ _ _ _ _ _ _ (T1.setTop (mkF m 11 #[.val (.ref x0), .val (.int (0 : Int32)), .val (.int (3 : Int32))] [(.int (3 : Int32)), (.int (0 : Int32)), (.int (0 : Int32)), (.ref x0)]))
  refine own_callS X1 hx hZ hown (hw _ (List.mem_of_getElem? (i := 39) rfl)) (hw _ (List.mem_of_getElem? (i := 40) rfl)) (hw _ (List.mem_of_getElem? (i := 41) rfl)) (hw _ (List.mem_of_getElem? (i := 42) rfl)) (by decide) e1 (argsL := [(.ref x0), (.int (0 : Int32)), (.int (0 : Int32)), (.int (3 : Int32))]) (met7_3 l Z a0 hw x0 0 0 3 nw f h0 n0 Z0 rfl rfl rfl A ge hnw) (W := 0) (by decide) (by decide) (by decide) (by decide) (by rw [hml]; rfl) pd_11 rfl (rest := []) rfl (Nat.le_of_eq rfl) (hb hby d5_11) ?_
  intro v2 T2 h2 L2 X2 e2 q2
  obtain ⟨rfl, N2q, Z2, g, A2, K2, P2⟩ := q2
  have N2 := Fr.app N1 N2q
  show own_Fin _ _ _ _ _ _ _ (T2.setTop (mkF m 14 #[.val (.ref x0), .val (.int (0 : Int32)), .val (.int (3 : Int32))] []))
  exact own_retV X2 hx hlk e2 hret (hb hby d5_14) (by decide) (by decide) ⟨rfl, N2, Z2, g, A2, K2, P2⟩
theorem met5 (l : Launch) (Z : State) (a0 : Array Value) (hw : ∀ d ∈ tables_1, d.before a0 Z = true) (x0 : Addr) (wc : Int32) (km nw : Nat) (f : Nat → Int32) (zw : Int32) (h0 : Heap) (n0 : Nat) (Z0 : n0 ≤ h0.size) (hwc : wc.toInt = (km : Int)) (h1 : 1 ≤ km) (h3 : km ≤ 3) (A : own_Arf Z h0 x0 .int nw (fun j => .int (f j))) (ge : n0 ≤ x0) (hnw : km ≤ nw) (hz : zw.toInt = (nw : Int)) :
    own_Met l Z (⟨"java/util/Arrays", "sort", "([III)V"⟩ : MethodName) jdk_65_method_3_code 3 none { frames := 3, cells := 0, slots := 0, locals := 67 } #[(.ref x0), (.int (0 : Int32)), (.int wc)] h0 (fun v h L => v = none ∧ Fr n0 L ∧ n0 ≤ h.size ∧ ∃ g : Nat → Int32, own_Arf Z h x0 .int nw (fun j => .int (g j)) ∧ Keep h0 h [x0] ∧ own_Perm km f g) := by
  have k1 : (1 : Int32).toInt = 1 := by decide
  have k2 : (2 : Int32).toInt = 2 := by decide
  have k3 : (3 : Int32).toInt = 3 := by decide
  obtain rfl | rfl | rfl : km = 1 ∨ km = 2 ∨ km = 3 := by omega
  · exact met5_1 l Z a0 hw x0 0 wc nw f zw h0 n0 Z0 rfl (Int32.toInt_inj.mp (by omega)) A ge hnw hz
  · exact met5_2 l Z a0 hw x0 0 wc nw f zw h0 n0 Z0 rfl (Int32.toInt_inj.mp (by omega)) A ge hnw hz
  · exact met5_3 l Z a0 hw x0 0 wc nw f zw h0 n0 Z0 rfl (Int32.toInt_inj.mp (by omega)) A ge hnw hz
theorem own_strict {k : Nat} {f g : Nat → Int32} (P : own_Perm k f g) (hk : k ≤ 3) (hi : ∀ i j, i < k → j < k → (f i).toInt = (f j).toInt → i = j) : ∀ i j, i < j → j < k → (g i).toInt < (g j).toInt := by
  intro i j h1 h2
  have a := P.1 i j h1 h2
  rw [Int32.lt_iff_toInt_lt] at a
  have q : (g i).toInt ≠ (g j).toInt := by
    intro e
    have mem : ∀ t, t < k → (0 < k ∧ g 0 = f t) ∨ (1 < k ∧ g 1 = f t) ∨ (2 < k ∧ g 2 = f t) := fun t ht => (own_ex3 k hk _).mp ((P.2 (f t)).mpr ⟨t, ht, rfl⟩)
    obtain rfl | rfl : k = 2 ∨ k = 3 := by omega
    · obtain ⟨rfl, rfl⟩ : i = 0 ∧ j = 1 := by omega
      have m0 := mem 0 (by decide); have m1 := mem 1 (by decide)
      have n01 : ¬ (f 0).toInt = (f 1).toInt := fun z => absurd (hi 0 1 (by decide) (by decide) z) (by decide)
      simp only [← Int32.toInt_inj] at m0 m1
      omega
    · have m0 := mem 0 (by decide); have m1 := mem 1 (by decide); have m2 := mem 2 (by decide)
      have n01 : ¬ (f 0).toInt = (f 1).toInt := fun z => absurd (hi 0 1 (by decide) (by decide) z) (by decide)
      have n02 : ¬ (f 0).toInt = (f 2).toInt := fun z => absurd (hi 0 2 (by decide) (by decide) z) (by decide)
      have n12 : ¬ (f 1).toInt = (f 2).toInt := fun z => absurd (hi 1 2 (by decide) (by decide) z) (by decide)
      simp only [← Int32.toInt_inj] at m0 m1 m2
      obtain ⟨rfl, rfl⟩ | ⟨rfl, rfl⟩ | ⟨rfl, rfl⟩ : (i = 0 ∧ j = 1) ∨ (i = 1 ∧ j = 2) ∨ (i = 0 ∧ j = 2) := by omega
      · omega
      · omega
      · omega
  omega
theorem own_Inv.sorted {cap nw n m : Nat} {e d : Nat → Nat} {V D g : Nat → Int32} {H : Nat → Int64} (I : own_Inv cap nw n m e d V D H) (hm : m ≤ 3) (P : own_Perm m D g) : own_Inv cap nw n m e (fun i => (g i).toInt.toNat) V g H ∧ ∀ i j, i < j → j < m → (g i).toInt.toNat < (g j).toInt.toNat := by
  obtain ⟨i1, i2, i3, i4, i5, i6, i7, i8⟩ := I
  have st := own_strict P hm (fun i j hi hj h => i4 i j hi hj (by have := (i3 i hi).1; have := (i3 j hj).1; omega))
  have mem : ∀ i, i < m → ∃ t, t < m ∧ D t = g i := fun i hi => (P.2 (g i)).mp ⟨i, hi, rfl⟩
  have val : ∀ i, i < m → (g i).toInt = (((g i).toInt.toNat : Nat) : Int) ∧ (g i).toInt.toNat < nw := fun i hi => by
    obtain ⟨t, ht, he⟩ := mem i hi
    have := i3 t ht
    rw [← he]; omega
  have asc : ∀ i j, i < j → j < m → (g i).toInt.toNat < (g j).toInt.toNat := fun i j h1 h2 => by
    have := st i j h1 h2; have := val i (by omega); have := val j h2; omega
  refine ⟨⟨i1, i2, val, fun i j hi hj h => ?_, i5, fun w => ?_, i7, i8⟩, asc⟩
  · rcases Nat.lt_trichotomy i j with q | q | q
    · have := asc i j q hj; dsimp only at h; omega
    · exact q
    · have := asc j i q hi; dsimp only at h; omega
  · rw [← i6 w]
    constructor
    · rintro ⟨i, hi, he⟩
      obtain ⟨t, ht, hq⟩ := mem i hi
      exact ⟨t, ht, by have := (i3 t ht).1; rw [hq] at this; dsimp only at he; omega⟩
    · rintro ⟨i, hi, he⟩
      obtain ⟨t, ht, hq⟩ := (P.2 (D i)).mpr ⟨i, hi, rfl⟩
      exact ⟨t, ht, by dsimp only; rw [hq]; have := (i3 i hi).1; omega⟩
def own_O (T d : Nat → Nat) (n m i j : Nat) : Prop := ∀ t, j ≤ t → t < n → ∃ k, i ≤ k ∧ k < m ∧ T t / 64 = d k
def own_Lo (T d : Nat → Nat) (n i j : Nat) : Prop := ∀ t, t < j → t < n → ∃ k, k < i ∧ T t / 64 = d k
theorem own_LoS {T d : Nat → Nat} {n i j : Nat} (h : own_Lo T d n (i + 1) j) (hw : T j / 64 = d i) : own_Lo T d n (i + 1) (j + 1) := by
  intro t h1 h2
  by_cases q : t = j
  · exact ⟨i, by omega, by rw [q]; exact hw⟩
  · exact h t (by omega) h2
theorem own_LoM {T d : Nat → Nat} {n i j : Nat} (h : own_Lo T d n i j) : own_Lo T d n (i + 1) j := fun t h1 h2 => by
  obtain ⟨k, k1, k2⟩ := h t h1 h2
  exact ⟨k, by omega, k2⟩
def own_rb (T d : Nat → Nat) (n i j : Nat) (r : Int64) : Prop := ∀ p, p < 64 → (own_bit r p = true ↔ ∃ t, j ≤ t ∧ t < n ∧ T t = 64 * d i + p)
section Turn
variable {T d : Nat → Nat} {n m i j : Nat} {r : Int64}
theorem own_turn0 (hT : ∀ t u, t < u → u < n → T t < T u) (hd : ∀ i j, i < j → j < m → d i < d j) (O : own_O T d n m i j) (hr : own_rb T d n i j r) (h : ¬ r = 0) : j < n ∧ T j / 64 = d i ∧ own_low r.toBitVec.toNat (T j % 64) := by
  have : ∃ p, p < 64 ∧ own_bit r p = true := by
    apply Classical.byContradiction
    intro hc
    exact h ((own_z64 r).mpr fun p hp => by
      cases hq : own_bit r p
      · rfl
      · exact absurd ⟨p, hp, hq⟩ hc)
  obtain ⟨p, hp, hq⟩ := this
  obtain ⟨t, h1, h2, h3⟩ := (hr p hp).mp hq
  have hj : j < n := by omega
  have hle : ∀ u, j ≤ u → u < n → T j ≤ T u := fun u a b => by
    rcases Nat.lt_or_ge j u with q | q
    · exact Nat.le_of_lt (hT j u q b)
    · have : j = u := by omega
      rw [this]; exact Nat.le_refl _
  have hw : T j / 64 = d i := by
    obtain ⟨k, k1, k2, k3⟩ := O j (Nat.le_refl _) hj
    have a := hle t h1 h2
    rcases Nat.lt_or_ge i k with q | q
    · have := hd i k q k2; omega
    · have : i = k := by omega
      rw [this]; exact k3
  refine ⟨hj, hw, (hr (T j % 64) (Nat.mod_lt _ (by decide))).mpr ⟨j, Nat.le_refl _, hj, by omega⟩, fun q hq' => ?_⟩
  cases hb : own_bit r q
  · exact hb
  · obtain ⟨u, u1, u2, u3⟩ := (hr q (by omega)).mp hb
    have := hle u u1 u2
    omega
theorem own_turn1 (hT : ∀ t u, t < u → u < n → T t < T u) (hr : own_rb T d n i j r) (hj : j < n) (hw : T j / 64 = d i) (hl : own_low r.toBitVec.toNat (T j % 64)) : own_rb T d n i (j + 1) (r &&& (r - 1)) := by
  intro p hp
  rw [own_clr r _ hl p, Bool.and_eq_true, decide_eq_true_eq, hr p hp]
  constructor
  · rintro ⟨⟨t, h1, h2, h3⟩, h4⟩
    have : ¬ t = j := fun e => by subst e; omega
    exact ⟨t, by omega, h2, h3⟩
  · rintro ⟨t, h1, h2, h3⟩
    refine ⟨⟨t, by omega, h2, h3⟩, ?_⟩
    have := hT j t (by omega) h2
    omega
theorem own_turnO (O : own_O T d n m i j) : own_O T d n m i (j + 1) := fun t h1 h2 => O t (by omega) h2
theorem own_outO (O : own_O T d n m i j) (hr : own_rb T d n i j r) (h : r = 0) : own_O T d n m (i + 1) j := by
  intro t h1 h2
  obtain ⟨k, k1, k2, k3⟩ := O t h1 h2
  by_cases q : k = i
  · have := (hr (T t % 64) (Nat.mod_lt _ (by decide))).mpr ⟨t, h1, h2, by subst q; omega⟩
    rw [(own_z64 r).mp h _ (Nat.mod_lt _ (by decide))] at this; cases this
  · exact ⟨k, by omega, k2, k3⟩
theorem own_val (gi q : Int32) (w p : Nat) (hg : gi.toInt = (w : Int)) (hw : w < 100) (hq : q = Int32.ofNat p) (hp : p < 64) : (gi * (64 : Int32) + q).toInt = ((64 * w + p : Nat) : Int) := by
  have h1 := c_imul gi 64
  have h2 := rng32 (gi * 64)
  have h3 := c_iadd (gi * 64) q
  have h4 := rng32 (gi * 64 + q)
  have k : (64 : Int32).toInt = 64 := by decide
  have h5 : q.toInt = (p : Int) := by rw [hq]; exact Int32.toInt_ofNat_of_lt (by omega)
  rw [hg, k] at h1
  omega
end Turn
theorem own_Rstep {R : Nat → Int32} {T : Nat → Nat} {j : Nat} {v : Int32} (hR : ∀ t, t < j → (R t).toInt = (T t : Int)) (hv : v.toInt = (T j : Int)) : ∀ t, t < j + 1 → (own_upd R j v t).toInt = (T t : Int) := by
  intro t ht
  unfold own_upd
  by_cases q : t = j
  · rw [if_pos q, q]; exact hv
  · rw [if_neg q]; exact hR t (by omega)
set_option maxRecDepth 65536 in
set_option maxHeartbeats 40000000 in
theorem own_inner (l : Launch) (Z : State) (a0 : Array Value) (hw : ∀ d ∈ tables_1, d.before a0 Z = true) (x0 : Addr) (cap : Nat) (nw : Nat) (sz : Int32) (wc : Int32) (a1 : Addr) (a2 : Addr) (a3 : Addr) (V : Nat → Int32) (H : Nat → Int64) (D : Nat → Int32) (kn : Nat) (km : Nat) (ee : Nat → Nat) (T : Nat → Nat) (b : Addr) (i : Nat) (i3 : Int32) (n0 : Nat) {p : Program} {e : Env} {s : State} {m : MethodId} {args : Array Value} {below : List Frame} {meth : Method} {c : Code} (hx : p.tables.exec = Jvm.exec) (hby : c.code = prog_91_method_4_code) (hml : c.maxLocals = 6) (hown : s.vm.findClass "com/example/shardloom/shardloom/VertexSet" = some m.cls) (hZ : Z.Warmed39 s.vm) (hret : meth.sig.returnType = some (.array .int)) (hlk : meth.locks = false) (hwc : wc.toInt = (km : Int)) (hm3 : km ≤ 3) (hn3 : kn ≤ 3) (hnw : nw ≤ 4) (I : own_Inv cap nw kn km ee (fun i => (D i).toInt.toNat) V D H) (hd : ∀ i j, i < j → j < km → (fun i => (D i).toInt.toNat) i < (fun i => (D i).toInt.toNat) j) (hT : ∀ t u, t < u → u < kn → T t < T u) (hTe : ∀ x, (∃ t, t < kn ∧ T t = x) ↔ ∃ t, t < kn ∧ ee t = x) (hlt : ∀ i, i < km → i < nw) (ne1 : x0 ≠ a1) (ne2 : x0 ≠ a2) (ne3 : x0 ≠ a3) (ne4 : a1 ≠ a2) (ne5 : a1 ≠ a3) (ne6 : a2 ≠ a3) (go : n0 ≤ x0) (ga1 : n0 ≤ a1) (ga2 : n0 ≤ a2) (ga3 : n0 ≤ a3) (nb0 : x0 ≠ b) (nb1 : a1 ≠ b) (nb2 : a2 ≠ b) (nb3 : a3 ≠ b) (gb : n0 ≤ b) (hikm : i < km) (hi3 : i3.toInt = (i : Int)) (hout : ∀ (jc : Nat) (c2 : Int32) (r4 : Int64) (R : Nat → Int32) (T0 : State) (locs : List Loc) (h0 : Heap), Stand p l e ({ frames := 4, cells := 1, slots := 3, locals := 81 } : Room) s m args below meth c T0 locs 1 3 → Fr n0 locs → n0 ≤ h0.size → T0.heap = h0 → jc ≤ kn → c2.toInt = (jc : Int) → (Exa Z h0 x0 "com/example/shardloom/shardloom/VertexSet") → (Fld Z h0 x0 "com/example/shardloom/shardloom/VertexSet" "size" "I" (.int sz)) → (Fld Z h0 x0 "com/example/shardloom/shardloom/VertexSet" "wordCount" "I" (.int wc)) → (Fld Z h0 x0 "com/example/shardloom/shardloom/VertexSet" "vertices" "[I" (.ref a1)) → (Fld Z h0 x0 "com/example/shardloom/shardloom/VertexSet" "held" "[J" (.ref a2)) → (Fld Z h0 x0 "com/example/shardloom/shardloom/VertexSet" "words" "[I" (.ref a3)) → (own_Arf Z h0 a1 .int cap (fun j => .int (V j))) → (own_Arf Z h0 a2 .long nw (fun j => .long (H j))) → (own_Arf Z h0 a3 .int nw (fun j => .int (D j))) → (Exa Z h0 a1 "[I") → (own_Arf Z h0 b .int kn (fun j => .int (R j))) → (∀ t, t < jc → (R t).toInt = (T t : Int)) → own_O T (fun i => (D i).toInt.toNat) kn km (i + 1) jc → own_Lo T (fun i => (D i).toInt.toNat) kn (i + 1) jc → own_Fin p e below s 1 3 (fun v h L => ∃ b : Addr, v = some (.ref b) ∧ Fr n0 L ∧ n0 ≤ h.size ∧ n0 ≤ b ∧ ∃ R : Nat → Int32, own_Arf Z h b .int kn (fun j => .int (R j)) ∧ (∀ t, t < kn → (R t).toInt = (T t : Int)) ∧ ∃ (H' : Nat → Int64) (D' : Nat → Int32) (d' : Nat → Nat), own_VS Z h n0 x0 cap nw 0 0 a1 a2 a3 V H' D' ∧ own_Inv cap nw 0 0 ee d' V D' H') (T0.setTop (mkF m 23 #[.val (.ref x0), .val (.ref b), .val (.int c2), .val (.int (i3 + (1 : Int32))), .val (.long r4), .second] []))) :
    ∀ (d : Nat) (jc : Nat) (c2 : Int32) (r4 : Int64) (R : Nat → Int32) (T0 : State) (locs : List Loc) (h0 : Heap), Stand p l e ({ frames := 4, cells := 1, slots := 3, locals := 81 } : Room) s m args below meth c T0 locs 1 3 → Fr n0 locs → n0 ≤ h0.size → T0.heap = h0 → (jc + d = kn) → (jc ≤ kn) → (c2.toInt = (jc : Int)) → (own_rb T (fun i => (D i).toInt.toNat) kn i jc r4) → (Exa Z h0 x0 "com/example/shardloom/shardloom/VertexSet") → (Fld Z h0 x0 "com/example/shardloom/shardloom/VertexSet" "size" "I" (.int sz)) → (Fld Z h0 x0 "com/example/shardloom/shardloom/VertexSet" "wordCount" "I" (.int wc)) → (Fld Z h0 x0 "com/example/shardloom/shardloom/VertexSet" "vertices" "[I" (.ref a1)) → (Fld Z h0 x0 "com/example/shardloom/shardloom/VertexSet" "held" "[J" (.ref a2)) → (Fld Z h0 x0 "com/example/shardloom/shardloom/VertexSet" "words" "[I" (.ref a3)) → (own_Arf Z h0 a1 .int cap (fun j => .int (V j))) → (own_Arf Z h0 a2 .long nw (fun j => .long (H j))) → (own_Arf Z h0 a3 .int nw (fun j => .int (D j))) → (Exa Z h0 a1 "[I") → (own_Arf Z h0 b .int kn (fun j => .int (R j))) → (∀ t, t < jc → (R t).toInt = (T t : Int)) → (own_O T (fun i => (D i).toInt.toNat) kn km i jc) → (own_Lo T (fun i => (D i).toInt.toNat) kn (i + 1) jc) → own_Fin p e below s 1 3 (fun v h L => ∃ b : Addr, v = some (.ref b) ∧ Fr n0 L ∧ n0 ≤ h.size ∧ n0 ≤ b ∧ ∃ R : Nat → Int32, own_Arf Z h b .int kn (fun j => .int (R j)) ∧ (∀ t, t < kn → (R t).toInt = (T t : Int)) ∧ ∃ (H' : Nat → Int64) (D' : Nat → Int32) (d' : Nat → Nat), own_VS Z h n0 x0 cap nw 0 0 a1 a2 a3 V H' D' ∧ own_Inv cap nw 0 0 ee d' V D' H') (T0.setTop (mkF m 44 #[.val (.ref x0), .val (.ref b), .val (.int c2), .val (.int i3), .val (.long r4), .second] [])) := by
  intro d
  induction d with
  | zero =>
    intro jc c2 r4 R T0 locs h0 X0 N0 Z0 e0 hm hjn hc2 hrb E Fs Fc Fv Fh Fw AV AH AW EV AB hR hO hL
    have c48 : r4 = 0 := (own_z64 r4).mpr fun p hp => by
      cases hq : own_bit r4 p
      · rfl
      · obtain ⟨t, q1, q2, q3⟩ := (hrb p hp).mp hq
        omega
    show own_Fin _ _ _ _ _ _ _ (T0.setTop (mkF m 44 #[.val (.ref x0), .val (.ref b), .val (.int c2), .val (.int i3), .val (.long r4), .second] []))
    refine own_of (fun _ kk => XS.lload X0.here hx rfl (hb hby d4_44) rfl kk) ?_
    show own_Fin _ _ _ _ _ _ _ (T0.setTop (mkF m 46 #[.val (.ref x0), .val (.ref b), .val (.int c2), .val (.int i3), .val (.long r4), .second] [(.long r4)]))
    refine own_of (fun _ kk => XS.lconst X0.here hx rfl (hb hby d4_46) kk) ?_
    show own_Fin _ _ _ _ _ _ _ (T0.setTop (mkF m 47 #[.val (.ref x0), .val (.ref b), .val (.int c2), .val (.int i3), .val (.long r4), .second] [(.long (0 : Int64)), (.long r4)]))
    refine own_of (fun _ kk => XS.lcmp X0.here hx rfl (hb hby d4_47) rfl kk) ?_
    show own_Fin _ _ _ _ _ _ _ (T0.setTop (mkF m 48 #[.val (.ref x0), .val (.ref b), .val (.int c2), .val (.int i3), .val (.long r4), .second] [(.int (lcmpW r4 (0 : Int64)))]))
    refine own_of (fun _ kk => XS.ifYes X0.here hx rfl (pc0 := 48) (pc' := 84) rfl (hb hby d4_48) rfl ((if0 _ _).trans (teq ((lw_eq _ _).mpr c48)).1) (by decide) (by decide) kk) ?_
    show own_Fin _ _ _ _ _ _ _ (T0.setTop (mkF m 84 #[.val (.ref x0), .val (.ref b), .val (.int c2), .val (.int i3), .val (.long r4), .second] []))
    refine own_of (fun _ kk => XS.iinc X0.here hx rfl (hb hby d4_84) rfl (l' := #[.val (.ref x0), .val (.ref b), .val (.int c2), .val (.int (i3 + (1 : Int32))), .val (.long r4), .second]) rfl kk) ?_
    show own_Fin _ _ _ _ _ _ _ (T0.setTop (mkF m 87 #[.val (.ref x0), .val (.ref b), .val (.int c2), .val (.int (i3 + (1 : Int32))), .val (.long r4), .second] []))
    refine own_of (fun _ kk => XS.goto X0.here hx rfl (pc0 := 87) (pc' := 23) rfl (hb hby d4_87) (by decide) (by decide) kk) ?_
    show own_Fin _ _ _ _ _ _ _ (T0.setTop (mkF m 23 #[.val (.ref x0), .val (.ref b), .val (.int c2), .val (.int (i3 + (1 : Int32))), .val (.long r4), .second] []))
    exact hout jc c2 r4 R T0 _ h0 X0 N0 Z0 e0 hjn hc2 E Fs Fc Fv Fh Fw AV AH AW EV AB hR (own_outO hO hrb c48) hL
  | succ d ih =>
    intro jc c2 r4 R T0 locs h0 X0 N0 Z0 e0 hm hjn hc2 hrb E Fs Fc Fv Fh Fw AV AH AW EV AB hR hO hL
    show own_Fin _ _ _ _ _ _ _ (T0.setTop (mkF m 44 #[.val (.ref x0), .val (.ref b), .val (.int c2), .val (.int i3), .val (.long r4), .second] []))
    refine own_of (fun _ kk => XS.lload X0.here hx rfl (hb hby d4_44) rfl kk) ?_
    show own_Fin _ _ _ _ _ _ _ (T0.setTop (mkF m 46 #[.val (.ref x0), .val (.ref b), .val (.int c2), .val (.int i3), .val (.long r4), .second] [(.long r4)]))
    refine own_of (fun _ kk => XS.lconst X0.here hx rfl (hb hby d4_46) kk) ?_
    show own_Fin _ _ _ _ _ _ _ (T0.setTop (mkF m 47 #[.val (.ref x0), .val (.ref b), .val (.int c2), .val (.int i3), .val (.long r4), .second] [(.long (0 : Int64)), (.long r4)]))
    refine own_of (fun _ kk => XS.lcmp X0.here hx rfl (hb hby d4_47) rfl kk) ?_
    show own_Fin _ _ _ _ _ _ _ (T0.setTop (mkF m 48 #[.val (.ref x0), .val (.ref b), .val (.int c2), .val (.int i3), .val (.long r4), .second] [(.int (lcmpW r4 (0 : Int64)))]))
    by_cases c48 : r4 = (0 : Int64)
    · refine own_of (fun _ kk => XS.ifYes X0.here hx rfl (pc0 := 48) (pc' := 84) rfl (hb hby d4_48) rfl ((if0 _ _).trans (teq ((lw_eq _ _).mpr c48)).1) (by decide) (by decide) kk) ?_
      show own_Fin _ _ _ _ _ _ _ (T0.setTop (mkF m 84 #[.val (.ref x0), .val (.ref b), .val (.int c2), .val (.int i3), .val (.long r4), .second] []))
      refine own_of (fun _ kk => XS.iinc X0.here hx rfl (hb hby d4_84) rfl (l' := #[.val (.ref x0), .val (.ref b), .val (.int c2), .val (.int (i3 + (1 : Int32))), .val (.long r4), .second]) rfl kk) ?_
      show own_Fin _ _ _ _ _ _ _ (T0.setTop (mkF m 87 #[.val (.ref x0), .val (.ref b), .val (.int c2), .val (.int (i3 + (1 : Int32))), .val (.long r4), .second] []))
      refine own_of (fun _ kk => XS.goto X0.here hx rfl (pc0 := 87) (pc' := 23) rfl (hb hby d4_87) (by decide) (by decide) kk) ?_
      show own_Fin _ _ _ _ _ _ _ (T0.setTop (mkF m 23 #[.val (.ref x0), .val (.ref b), .val (.int c2), .val (.int (i3 + (1 : Int32))), .val (.long r4), .second] []))
      exact hout jc c2 r4 R T0 _ h0 X0 N0 Z0 e0 hjn hc2 E Fs Fc Fv Fh Fw AV AH AW EV AB hR (own_outO hO hrb c48) hL
    · refine own_of (fun _ kk => XS.ifNo X0.here hx rfl (hb hby d4_48) rfl ((if0 _ _).trans (feq (mt (lw_eq _ _).mp c48)).1) kk) ?_
      show own_Fin _ _ _ _ _ _ _ (T0.setTop (mkF m 51 #[.val (.ref x0), .val (.ref b), .val (.int c2), .val (.int i3), .val (.long r4), .second] []))
      have tj := own_turn0 hT hd hO hrb c48
      have tv : ((D i) * (64 : Int32) + (own_f10 r4)).toInt = (T jc : Int) := by rw [own_val (D i) (own_f10 r4) ((D i).toInt.toNat) (T jc % 64) (I.2.2.1 i hikm).1 (Nat.lt_of_lt_of_le (I.2.2.1 i hikm).2 (by omega)) (own_ntz r4 _ (Nat.mod_lt _ (by decide)) tj.2.2) (Nat.mod_lt _ (by decide))]; have := tj.2.1; omega
      refine own_of (fun _ kk => XS.aloadN X0.here hx rfl (hb hby d4_51) rfl rfl kk) ?_
      show own_Fin _ _ _ _ _ _ _ (T0.setTop (mkF m 52 #[.val (.ref x0), .val (.ref b), .val (.int c2), .val (.int i3), .val (.long r4), .second] [(.ref b)]))
      refine own_of (fun _ kk => XS.iloadN X0.here hx rfl (hb hby d4_52) rfl kk) ?_
      show own_Fin _ _ _ _ _ _ _ (T0.setTop (mkF m 53 #[.val (.ref x0), .val (.ref b), .val (.int c2), .val (.int i3), .val (.long r4), .second] [(.int c2), (.ref b)]))
      refine own_of (fun _ kk => XS.iinc X0.here hx rfl (hb hby d4_53) rfl (l' := #[.val (.ref x0), .val (.ref b), .val (.int (c2 + (1 : Int32))), .val (.int i3), .val (.long r4), .second]) rfl kk) ?_
      show own_Fin _ _ _ _ _ _ _ (T0.setTop (mkF m 56 #[.val (.ref x0), .val (.ref b), .val (.int (c2 + (1 : Int32))), .val (.int i3), .val (.long r4), .second] [(.int c2), (.ref b)]))
      refine own_of (fun _ kk => XS.aloadN X0.here hx rfl (hb hby d4_56) rfl rfl kk) ?_
      show own_Fin _ _ _ _ _ _ _ (T0.setTop (mkF m 57 #[.val (.ref x0), .val (.ref b), .val (.int (c2 + (1 : Int32))), .val (.int i3), .val (.long r4), .second] [(.ref x0), (.int c2), (.ref b)]))
      refine own_getF X0 hx hZ hown (hw _ (List.mem_of_getElem? (i := 16) rfl)) e0 Fw (hb hby d4_57) ?_
      intro T1 X1 e1
      show own_Fin _ _ _ _ _ _ _ (T1.setTop (mkF m 60 #[.val (.ref x0), .val (.ref b), .val (.int (c2 + (1 : Int32))), .val (.int i3), .val (.long r4), .second] [(.ref a3), (.int c2), (.ref b)]))
      refine own_of (fun _ kk => XS.iloadN X1.here hx rfl (hb hby d4_60) rfl kk) ?_
      show own_Fin _ _ _ _ _ _ _ (T1.setTop (mkF m 61 #[.val (.ref x0), .val (.ref b), .val (.int (c2 + (1 : Int32))), .val (.int i3), .val (.long r4), .second] [(.int i3), (.ref a3), (.int c2), (.ref b)]))
      refine own_iaload X1 hx hZ e1 AW (i := i) hi3 (hlt i hikm) (v := (.int (D i))) rfl (hb hby d4_61) ?_
      show own_Fin _ _ _ _ _ _ _ (T1.setTop (mkF m 62 #[.val (.ref x0), .val (.ref b), .val (.int (c2 + (1 : Int32))), .val (.int i3), .val (.long r4), .second] [(.int (D i)), (.int c2), (.ref b)]))
      refine own_of (fun _ kk => XS.bipush X1.here hx rfl (hb hby d4_62) kk) ?_
      show own_Fin _ _ _ _ _ _ _ (T1.setTop (mkF m 64 #[.val (.ref x0), .val (.ref b), .val (.int (c2 + (1 : Int32))), .val (.int i3), .val (.long r4), .second] [(.int (64 : Int32)), (.int (D i)), (.int c2), (.ref b)]))
      refine own_of (fun _ kk => XS.imul X1.here hx rfl (hb hby d4_64) rfl kk) ?_
      show own_Fin _ _ _ _ _ _ _ (T1.setTop (mkF m 65 #[.val (.ref x0), .val (.ref b), .val (.int (c2 + (1 : Int32))), .val (.int i3), .val (.long r4), .second] [(.int ((D i) * (64 : Int32))), (.int c2), (.ref b)]))
      refine own_of (fun _ kk => XS.lload X1.here hx rfl (hb hby d4_65) rfl kk) ?_
      show own_Fin _ _ _ _ _ _ _ (T1.setTop (mkF m 67 #[.val (.ref x0), .val (.ref b), .val (.int (c2 + (1 : Int32))), .val (.int i3), .val (.long r4), .second] [(.long r4), (.int ((D i) * (64 : Int32))), (.int c2), (.ref b)]))
      refine own_callP X1 hx hZ hown (hw _ (List.mem_of_getElem? (i := 49) rfl)) (hw _ (List.mem_of_getElem? (i := 50) rfl)) (hw _ (List.mem_of_getElem? (i := 51) rfl)) (hw _ (List.mem_of_getElem? (i := 52) rfl)) (by decide) e1 (argsL := [(.long r4)]) (rv := (.int (own_f10 r4))) (met10 l Z a0 hw r4 h0) (W := 3) (by decide) (by decide) (by decide) (by decide) (by rw [hml]; rfl) pd_7 rfl (rest := [(.int ((D i) * (64 : Int32))), (.int c2), (.ref b)]) rfl (Nat.le_of_eq rfl) (hb hby d4_67) ?_
      intro T2 X2 e2
      show own_Fin _ _ _ _ _ _ _ (T2.setTop (mkF m 70 #[.val (.ref x0), .val (.ref b), .val (.int (c2 + (1 : Int32))), .val (.int i3), .val (.long r4), .second] [(.int (own_f10 r4)), (.int ((D i) * (64 : Int32))), (.int c2), (.ref b)]))
      refine own_of (fun _ kk => XS.iadd X2.here hx rfl (hb hby d4_70) rfl kk) ?_
      show own_Fin _ _ _ _ _ _ _ (T2.setTop (mkF m 71 #[.val (.ref x0), .val (.ref b), .val (.int (c2 + (1 : Int32))), .val (.int i3), .val (.long r4), .second] [(.int (((D i) * (64 : Int32)) + (own_f10 r4))), (.int c2), (.ref b)]))
      refine own_iastore X2 hx hZ e2 AB N0 gb (i := jc) hc2 tj.1 (hb hby d4_71) ?_
      intro T3 h3 l3 X3 N3 e3 W3 A3
      replace A3 : own_Arf Z h3 b .int kn (fun j => if j = jc then (.int (((D i) * (64 : Int32)) + (own_f10 r4))) else (fun j => .int (R j)) j) := A3
      have ZW3 : n0 ≤ h3.size := by rw [Wr.size W3]; exact Z0
      replace E := E.wr W3
      replace EV := EV.wr W3
      replace Fs := Fs.other W3 (Or.inl nb0)
      replace Fc := Fc.other W3 (Or.inl nb0)
      replace Fv := Fv.other W3 (Or.inl nb0)
      replace Fh := Fh.other W3 (Or.inl nb0)
      replace Fw := Fw.other W3 (Or.inl nb0)
      replace AV := AV.other W3 nb1
      replace AH := AH.other W3 nb2
      replace AW := AW.other W3 nb3
      show own_Fin _ _ _ _ _ _ _ (T3.setTop (mkF m 72 #[.val (.ref x0), .val (.ref b), .val (.int (c2 + (1 : Int32))), .val (.int i3), .val (.long r4), .second] []))
      refine own_of (fun _ kk => XS.lload X3.here hx rfl (hb hby d4_72) rfl kk) ?_
      show own_Fin _ _ _ _ _ _ _ (T3.setTop (mkF m 74 #[.val (.ref x0), .val (.ref b), .val (.int (c2 + (1 : Int32))), .val (.int i3), .val (.long r4), .second] [(.long r4)]))
      refine own_of (fun _ kk => XS.lload X3.here hx rfl (hb hby d4_74) rfl kk) ?_
      show own_Fin _ _ _ _ _ _ _ (T3.setTop (mkF m 76 #[.val (.ref x0), .val (.ref b), .val (.int (c2 + (1 : Int32))), .val (.int i3), .val (.long r4), .second] [(.long r4), (.long r4)]))
      refine own_of (fun _ kk => XS.lconst X3.here hx rfl (hb hby d4_76) kk) ?_
      show own_Fin _ _ _ _ _ _ _ (T3.setTop (mkF m 77 #[.val (.ref x0), .val (.ref b), .val (.int (c2 + (1 : Int32))), .val (.int i3), .val (.long r4), .second] [(.long (1 : Int64)), (.long r4), (.long r4)]))
      refine own_of (fun _ kk => XS.lsub X3.here hx rfl (hb hby d4_77) rfl kk) ?_
      show own_Fin _ _ _ _ _ _ _ (T3.setTop (mkF m 78 #[.val (.ref x0), .val (.ref b), .val (.int (c2 + (1 : Int32))), .val (.int i3), .val (.long r4), .second] [(.long (r4 - (1 : Int64))), (.long r4)]))
      refine own_of (fun _ kk => XS.land X3.here hx rfl (hb hby d4_78) rfl kk) ?_
      show own_Fin _ _ _ _ _ _ _ (T3.setTop (mkF m 79 #[.val (.ref x0), .val (.ref b), .val (.int (c2 + (1 : Int32))), .val (.int i3), .val (.long r4), .second] [(.long (r4 &&& (r4 - (1 : Int64))))]))
      refine own_of (fun _ kk => XS.lstore X3.here hx rfl (hb hby d4_79) rfl (l' := #[.val (.ref x0), .val (.ref b), .val (.int (c2 + (1 : Int32))), .val (.int i3), .val (.long (r4 &&& (r4 - (1 : Int64)))), .second]) rfl kk) ?_
      show own_Fin _ _ _ _ _ _ _ (T3.setTop (mkF m 81 #[.val (.ref x0), .val (.ref b), .val (.int (c2 + (1 : Int32))), .val (.int i3), .val (.long (r4 &&& (r4 - (1 : Int64)))), .second] []))
      refine own_of (fun _ kk => XS.goto X3.here hx rfl (pc0 := 81) (pc' := 44) rfl (hb hby d4_81) (by decide) (by decide) kk) ?_
      show own_Fin _ _ _ _ _ _ _ (T3.setTop (mkF m 44 #[.val (.ref x0), .val (.ref b), .val (.int (c2 + (1 : Int32))), .val (.int i3), .val (.long (r4 &&& (r4 - (1 : Int64)))), .second] []))
      exact ih (jc + 1) (c2 + 1) (r4 &&& (r4 - 1)) (own_upd R jc ((D i) * (64 : Int32) + (own_f10 r4))) T3 _ h3 X3 N3 ZW3 e3 (by have := tj.1; omega) (by have := tj.1; omega) (own_p1 hc2 (by omega)) (own_turn1 hT hrb tj.1 tj.2.1 tj.2.2) E Fs Fc Fv Fh Fw AV AH AW EV (A3.congr fun q _ => by unfold own_upd; dsimp only; split <;> rfl) (own_Rstep hR tv) (own_turnO hO) (own_LoS hL tj.2.1)
theorem own_rb0 {cap nw n m : Nat} {e d T : Nat → Nat} {V D : Nat → Int32} {H : Nat → Int64} (I : own_Inv cap nw n m e d V D H) (hTe : ∀ x, (∃ t, t < n ∧ T t = x) ↔ ∃ t, t < n ∧ e t = x) (hd : ∀ i j, i < j → j < m → d i < d j) {i j : Nat} (hi : i < m) (hL : own_Lo T d n i j) : own_rb T d n i j (H (d i)) := by
  obtain ⟨i1, i2, i3, i4, i5, i6, i7, i8⟩ := I
  intro p hp
  rw [i5 (d i) (i3 i hi).2 p hp, ← hTe]
  constructor
  · rintro ⟨t, h1, h2⟩
    refine ⟨t, ?_, h1, h2⟩
    apply Classical.byContradiction
    intro hc
    obtain ⟨k, k1, k2⟩ := hL t (by omega) h1
    have := hd k i k1 hi
    omega
  · rintro ⟨t, h1, h2, h3⟩; exact ⟨t, h2, h3⟩
theorem own_end {T d : Nat → Nat} {n m j : Nat} (hO : own_O T d n m m j) (hj : j ≤ n) : j = n := by
  apply Classical.byContradiction
  intro hc
  obtain ⟨k, h1, h2, -⟩ := hO j (Nat.le_refl _) (by omega)
  omega
set_option maxRecDepth 65536 in
set_option maxHeartbeats 40000000 in
theorem own_outer (l : Launch) (Z : State) (a0 : Array Value) (hw : ∀ d ∈ tables_1, d.before a0 Z = true) (x0 : Addr) (cap : Nat) (nw : Nat) (sz : Int32) (wc : Int32) (a1 : Addr) (a2 : Addr) (a3 : Addr) (V : Nat → Int32) (H : Nat → Int64) (D : Nat → Int32) (kn : Nat) (km : Nat) (ee : Nat → Nat) (T : Nat → Nat) (b : Addr) (n0 : Nat) {p : Program} {e : Env} {s : State} {m : MethodId} {args : Array Value} {below : List Frame} {meth : Method} {c : Code} (hx : p.tables.exec = Jvm.exec) (hby : c.code = prog_91_method_4_code) (hml : c.maxLocals = 6) (hown : s.vm.findClass "com/example/shardloom/shardloom/VertexSet" = some m.cls) (hZ : Z.Warmed39 s.vm) (hret : meth.sig.returnType = some (.array .int)) (hlk : meth.locks = false) (hwc : wc.toInt = (km : Int)) (hm3 : km ≤ 3) (hn3 : kn ≤ 3) (hnw : nw ≤ 4) (I : own_Inv cap nw kn km ee (fun i => (D i).toInt.toNat) V D H) (hd : ∀ i j, i < j → j < km → (fun i => (D i).toInt.toNat) i < (fun i => (D i).toInt.toNat) j) (hT : ∀ t u, t < u → u < kn → T t < T u) (hTe : ∀ x, (∃ t, t < kn ∧ T t = x) ↔ ∃ t, t < kn ∧ ee t = x) (hlt : ∀ i, i < km → i < nw) (ne1 : x0 ≠ a1) (ne2 : x0 ≠ a2) (ne3 : x0 ≠ a3) (ne4 : a1 ≠ a2) (ne5 : a1 ≠ a3) (ne6 : a2 ≠ a3) (go : n0 ≤ x0) (ga1 : n0 ≤ a1) (ga2 : n0 ≤ a2) (ga3 : n0 ≤ a3) (nb0 : x0 ≠ b) (nb1 : a1 ≠ b) (nb2 : a2 ≠ b) (nb3 : a3 ≠ b) (gb : n0 ≤ b) :
    ∀ (d : Nat) (i : Nat) (jc : Nat) (c2 : Int32) (i3 : Int32) (r4 : Int64) (R : Nat → Int32) (T0 : State) (locs : List Loc) (h0 : Heap), Stand p l e ({ frames := 4, cells := 1, slots := 3, locals := 81 } : Room) s m args below meth c T0 locs 1 3 → Fr n0 locs → n0 ≤ h0.size → T0.heap = h0 → (i + d = km) → (jc ≤ kn) → (c2.toInt = (jc : Int)) → (i3.toInt = (i : Int)) → (Exa Z h0 x0 "com/example/shardloom/shardloom/VertexSet") → (Fld Z h0 x0 "com/example/shardloom/shardloom/VertexSet" "size" "I" (.int sz)) → (Fld Z h0 x0 "com/example/shardloom/shardloom/VertexSet" "wordCount" "I" (.int wc)) → (Fld Z h0 x0 "com/example/shardloom/shardloom/VertexSet" "vertices" "[I" (.ref a1)) → (Fld Z h0 x0 "com/example/shardloom/shardloom/VertexSet" "held" "[J" (.ref a2)) → (Fld Z h0 x0 "com/example/shardloom/shardloom/VertexSet" "words" "[I" (.ref a3)) → (own_Arf Z h0 a1 .int cap (fun j => .int (V j))) → (own_Arf Z h0 a2 .long nw (fun j => .long (H j))) → (own_Arf Z h0 a3 .int nw (fun j => .int (D j))) → (Exa Z h0 a1 "[I") → (own_Arf Z h0 b .int kn (fun j => .int (R j))) → (∀ t, t < jc → (R t).toInt = (T t : Int)) → (own_O T (fun i => (D i).toInt.toNat) kn km i jc) → (own_Lo T (fun i => (D i).toInt.toNat) kn i jc) → own_Fin p e below s 1 3 (fun v h L => ∃ b : Addr, v = some (.ref b) ∧ Fr n0 L ∧ n0 ≤ h.size ∧ n0 ≤ b ∧ ∃ R : Nat → Int32, own_Arf Z h b .int kn (fun j => .int (R j)) ∧ (∀ t, t < kn → (R t).toInt = (T t : Int)) ∧ ∃ (H' : Nat → Int64) (D' : Nat → Int32) (d' : Nat → Nat), own_VS Z h n0 x0 cap nw 0 0 a1 a2 a3 V H' D' ∧ own_Inv cap nw 0 0 ee d' V D' H') (T0.setTop (mkF m 23 #[.val (.ref x0), .val (.ref b), .val (.int c2), .val (.int i3), .val (.long r4), .second] [])) := by
  intro d
  induction d with
  | zero =>
    intro i jc c2 i3 r4 R T0 locs h0 X0 N0 Z0 e0 hm hjn hc2 hi3 E Fs Fc Fv Fh Fw AV AH AW EV AB hR hO hL
    obtain rfl : km = i := by omega
    show own_Fin _ _ _ _ _ _ _ (T0.setTop (mkF m 23 #[.val (.ref x0), .val (.ref b), .val (.int c2), .val (.int i3), .val (.long r4), .second] []))
    refine own_of (fun _ kk => XS.iloadN X0.here hx rfl (hb hby d4_23) rfl kk) ?_
    show own_Fin _ _ _ _ _ _ _ (T0.setTop (mkF m 24 #[.val (.ref x0), .val (.ref b), .val (.int c2), .val (.int i3), .val (.long r4), .second] [(.int i3)]))
    refine own_of (fun _ kk => XS.aloadN X0.here hx rfl (hb hby d4_24) rfl rfl kk) ?_
    show own_Fin _ _ _ _ _ _ _ (T0.setTop (mkF m 25 #[.val (.ref x0), .val (.ref b), .val (.int c2), .val (.int i3), .val (.long r4), .second] [(.ref x0), (.int i3)]))
    refine own_getF X0 hx hZ hown (hw _ (List.mem_of_getElem? (i := 23) rfl)) e0 Fc (hb hby d4_25) ?_
    intro T1 X1 e1
    show own_Fin _ _ _ _ _ _ _ (T1.setTop (mkF m 28 #[.val (.ref x0), .val (.ref b), .val (.int c2), .val (.int i3), .val (.long r4), .second] [(.int wc), (.int i3)]))
    refine own_of (fun _ kk => XS.icmpYes X1.here hx rfl (pc0 := 28) (pc' := 90) rfl (hb hby d4_28) rfl (flt (by rw [Int32.lt_iff_toInt_lt]; omega)).2.1 (by decide) (by decide) kk) ?_
    show own_Fin _ _ _ _ _ _ _ (T1.setTop (mkF m 90 #[.val (.ref x0), .val (.ref b), .val (.int c2), .val (.int i3), .val (.long r4), .second] []))
    refine own_of (fun _ kk => XS.aloadN X1.here hx rfl (hb hby d4_90) rfl rfl kk) ?_
    show own_Fin _ _ _ _ _ _ _ (T1.setTop (mkF m 91 #[.val (.ref x0), .val (.ref b), .val (.int c2), .val (.int i3), .val (.long r4), .second] [(.ref x0)]))
    have O : own_VS Z h0 n0 x0 cap nw sz wc a1 a2 a3 V H D := ⟨E, Fs, Fc, Fv, Fh, Fw, AV, AH, AW, EV, ⟨ne1, ne2, ne3, ne4, ne5, ne6⟩, go, ga1, ga2, ga3⟩
    refine own_callX X1 hx hZ (y := (⟨"com/example/shardloom/shardloom/VertexSet", "clear", "()V"⟩ : MethodName)) hown (hw _ (List.mem_of_getElem? (i := 57) rfl)) (hw _ (List.mem_of_getElem? (i := 58) rfl)) (hw _ (List.mem_of_getElem? (i := 59) rfl)) (hw _ (List.mem_of_getElem? (i := 2) rfl)) (hw _ (List.mem_of_getElem? (i := 3) rfl)) (hw _ (List.mem_of_getElem? (i := 60) rfl)) (by decide) e1 O.1 (argsL := []) (met12 l Z a0 hw x0 cap nw sz wc a1 a2 a3 V H D (fun i => (D i).toInt.toNat) km h0 n0 Z0 O hwc (by omega) (fun t ht => I.2.2.1 t ht) hlt) (W := 0) (by decide) (by decide) (by decide) (by decide) (by rw [hml]; rfl) pd_0 rfl (rest := []) rfl (Nat.le_of_eq rfl) (hb hby d4_91) ?_
    intro v2 T2 h2 L2 X2 e2 q2
    obtain ⟨rfl, N2q, Z2, O2, K2⟩ := q2
    have N2 := Fr.app N0 N2q
    show own_Fin _ _ _ _ _ _ _ (T2.setTop (mkF m 94 #[.val (.ref x0), .val (.ref b), .val (.int c2), .val (.int i3), .val (.long r4), .second] []))
    refine own_of (fun _ kk => XS.aloadN X2.here hx rfl (hb hby d4_94) rfl rfl kk) ?_
    show own_Fin _ _ _ _ _ _ _ (T2.setTop (mkF m 95 #[.val (.ref x0), .val (.ref b), .val (.int c2), .val (.int i3), .val (.long r4), .second] [(.ref b)]))
    exact own_retA X2 hx hlk e2 rfl hret rfl (hb hby d4_95) (by decide) (by decide) ⟨b, rfl, N2, Z2, gb, R, (AB.keep K2 (ninS (Ne.symm nb0) (ninS (Ne.symm nb2) nin0))), (fun t ht => hR t (by have := own_end hO hjn; omega)), _, D, (fun i => (D i).toInt.toNat), O2, I.clean⟩
  | succ d ih =>
    intro i jc c2 i3 r4 R T0 locs h0 X0 N0 Z0 e0 hm hjn hc2 hi3 E Fs Fc Fv Fh Fw AV AH AW EV AB hR hO hL
    have hikm : i < km := by omega
    show own_Fin _ _ _ _ _ _ _ (T0.setTop (mkF m 23 #[.val (.ref x0), .val (.ref b), .val (.int c2), .val (.int i3), .val (.long r4), .second] []))
    refine own_of (fun _ kk => XS.iloadN X0.here hx rfl (hb hby d4_23) rfl kk) ?_
    show own_Fin _ _ _ _ _ _ _ (T0.setTop (mkF m 24 #[.val (.ref x0), .val (.ref b), .val (.int c2), .val (.int i3), .val (.long r4), .second] [(.int i3)]))
    refine own_of (fun _ kk => XS.aloadN X0.here hx rfl (hb hby d4_24) rfl rfl kk) ?_
    show own_Fin _ _ _ _ _ _ _ (T0.setTop (mkF m 25 #[.val (.ref x0), .val (.ref b), .val (.int c2), .val (.int i3), .val (.long r4), .second] [(.ref x0), (.int i3)]))
    refine own_getF X0 hx hZ hown (hw _ (List.mem_of_getElem? (i := 23) rfl)) e0 Fc (hb hby d4_25) ?_
    intro T1 X1 e1
    show own_Fin _ _ _ _ _ _ _ (T1.setTop (mkF m 28 #[.val (.ref x0), .val (.ref b), .val (.int c2), .val (.int i3), .val (.long r4), .second] [(.int wc), (.int i3)]))
    refine own_of (fun _ kk => XS.icmpNo X1.here hx rfl (hb hby d4_28) rfl (tlt (by rw [Int32.lt_iff_toInt_lt]; omega)).2.1 kk) ?_
    show own_Fin _ _ _ _ _ _ _ (T1.setTop (mkF m 31 #[.val (.ref x0), .val (.ref b), .val (.int c2), .val (.int i3), .val (.long r4), .second] []))
    refine own_of (fun _ kk => XS.aloadN X1.here hx rfl (hb hby d4_31) rfl rfl kk) ?_
    show own_Fin _ _ _ _ _ _ _ (T1.setTop (mkF m 32 #[.val (.ref x0), .val (.ref b), .val (.int c2), .val (.int i3), .val (.long r4), .second] [(.ref x0)]))
    refine own_getF X1 hx hZ hown (hw _ (List.mem_of_getElem? (i := 14) rfl)) e1 Fh (hb hby d4_32) ?_
    intro T2 X2 e2
    show own_Fin _ _ _ _ _ _ _ (T2.setTop (mkF m 35 #[.val (.ref x0), .val (.ref b), .val (.int c2), .val (.int i3), .val (.long r4), .second] [(.ref a2)]))
    refine own_of (fun _ kk => XS.aloadN X2.here hx rfl (hb hby d4_35) rfl rfl kk) ?_
    show own_Fin _ _ _ _ _ _ _ (T2.setTop (mkF m 36 #[.val (.ref x0), .val (.ref b), .val (.int c2), .val (.int i3), .val (.long r4), .second] [(.ref x0), (.ref a2)]))
    refine own_getF X2 hx hZ hown (hw _ (List.mem_of_getElem? (i := 16) rfl)) e2 Fw (hb hby d4_36) ?_
    intro T3 X3 e3
    show own_Fin _ _ _ _ _ _ _ (T3.setTop (mkF m 39 #[.val (.ref x0), .val (.ref b), .val (.int c2), .val (.int i3), .val (.long r4), .second] [(.ref a3), (.ref a2)]))
    refine own_of (fun _ kk => XS.iloadN X3.here hx rfl (hb hby d4_39) rfl kk) ?_
    show own_Fin _ _ _ _ _ _ _ (T3.setTop (mkF m 40 #[.val (.ref x0), .val (.ref b), .val (.int c2), .val (.int i3), .val (.long r4), .second] [(.int i3), (.ref a3), (.ref a2)]))
    refine own_iaload X3 hx hZ e3 AW (i := i) hi3 (hlt i hikm) (v := (.int (D i))) rfl (hb hby d4_40) ?_
    show own_Fin _ _ _ _ _ _ _ (T3.setTop (mkF m 41 #[.val (.ref x0), .val (.ref b), .val (.int c2), .val (.int i3), .val (.long r4), .second] [(.int (D i)), (.ref a2)]))
    refine own_laload X3 hx hZ e3 AH (i := ((D i).toInt.toNat)) (I.2.2.1 i hikm).1 (I.2.2.1 i hikm).2 (v := (.long (H ((D i).toInt.toNat)))) rfl (hb hby d4_41) ?_
    show own_Fin _ _ _ _ _ _ _ (T3.setTop (mkF m 42 #[.val (.ref x0), .val (.ref b), .val (.int c2), .val (.int i3), .val (.long r4), .second] [(.long (H ((D i).toInt.toNat)))]))
    refine own_of (fun _ kk => XS.lstore X3.here hx rfl (hb hby d4_42) rfl (l' := #[.val (.ref x0), .val (.ref b), .val (.int c2), .val (.int i3), .val (.long (H ((D i).toInt.toNat))), .second]) rfl kk) ?_
    show own_Fin _ _ _ _ _ _ _ (T3.setTop (mkF m 44 #[.val (.ref x0), .val (.ref b), .val (.int c2), .val (.int i3), .val (.long (H ((D i).toInt.toNat))), .second] []))
    exact own_inner l Z a0 hw x0 cap nw sz wc a1 a2 a3 V H D kn km ee T b i i3 n0 hx hby hml hown hZ hret hlk hwc hm3 hn3 hnw I hd hT hTe hlt ne1 ne2 ne3 ne4 ne5 ne6 go ga1 ga2 ga3 nb0 nb1 nb2 nb3 gb (by omega) hi3 (fun jc c2 r4 R T0 locs h0 X N Z0 e0 hjn hc2 E Fs Fc Fv Fh Fw AV AH AW EV AB hR hO hL => ih (i + 1) jc c2 (i3 + 1) r4 R T0 locs h0 X N Z0 e0 (by omega) hjn hc2 (own_p1 hi3 (by omega)) E Fs Fc Fv Fh Fw AV AH AW EV AB hR hO hL) (kn - jc) jc c2 _ R T3 _ h0 X3 N0 Z0 e3 (by omega) hjn hc2 (own_rb0 I hTe hd hikm hL) E Fs Fc Fv Fh Fw AV AH AW EV AB hR hO (own_LoM hL)
theorem own_O0 {cap nw n m : Nat} {e d T : Nat → Nat} {V D : Nat → Int32} {H : Nat → Int64} (I : own_Inv cap nw n m e d V D H) (hTe : ∀ x, (∃ t, t < n ∧ T t = x) ↔ ∃ t, t < n ∧ e t = x) : own_O T d n m 0 0 := by
  intro t _ h2
  obtain ⟨u, u1, u2⟩ := (hTe (T t)).mp ⟨t, h2, rfl⟩
  obtain ⟨k, k1, k2⟩ := (I.2.2.2.2.2.1 (T t / 64)).mpr ⟨u, u1, by rw [u2]⟩
  exact ⟨k, Nat.zero_le _, k1, k2.symm⟩
set_option maxRecDepth 65536 in
set_option maxHeartbeats 40000000 in
theorem met4 (l : Launch) (Z : State) (a0 : Array Value) (hw : ∀ d ∈ tables_1, d.before a0 Z = true) (x0 : Addr) (cap : Nat) (nw : Nat) (sz : Int32) (wc : Int32) (a1 : Addr) (a2 : Addr) (a3 : Addr) (V : Nat → Int32) (H : Nat → Int64) (D : Nat → Int32) (kn : Nat) (km : Nat) (ee : Nat → Nat) (dd : Nat → Nat) (T : Nat → Nat) (zw : Int32) (h0 : Heap) (n0 : Nat) (Z0 : n0 ≤ h0.size) (O : own_VS Z h0 n0 x0 cap nw sz wc a1 a2 a3 V H D) (hsz : sz.toInt = (kn : Int)) (hwc : wc.toInt = (km : Int)) (I : own_Inv cap nw kn km ee dd V D H) (hk3 : kn ≤ 3) (hkm1 : 1 ≤ km) (hnw : nw ≤ 4) (hnwk : km ≤ nw) (hz : zw.toInt = (nw : Int)) (hT : ∀ t u, t < u → u < kn → T t < T u) (hTe : ∀ x, (∃ t, t < kn ∧ T t = x) ↔ ∃ t, t < kn ∧ ee t = x) (hlt : ∀ i, i < km → i < nw) :
    own_Met l Z (⟨"com/example/shardloom/shardloom/VertexSet", "takeAscending", "()[I"⟩ : MethodName) prog_91_method_4_code 6 (some (.array .int)) { frames := 4, cells := 1, slots := 3, locals := 81 } #[(.ref x0)] h0 (fun v h L => ∃ b : Addr, v = some (.ref b) ∧ Fr n0 L ∧ n0 ≤ h.size ∧ n0 ≤ b ∧ ∃ R : Nat → Int32, own_Arf Z h b .int kn (fun j => .int (R j)) ∧ (∀ t, t < kn → (R t).toInt = (T t : Int)) ∧ ∃ (H' : Nat → Int64) (D' : Nat → Int32) (d' : Nat → Nat), own_VS Z h n0 x0 cap nw 0 0 a1 a2 a3 V H' D' ∧ own_Inv cap nw 0 0 ee d' V D' H') := by
  refine own_met pn_4 ?_
  intro p e s m below meth c T0 X0 hx hby hml hown hZ e0 hret hlk hnm
  rw [ef_4 m x0]
  have N0 := Fr.nil n0
  obtain ⟨E, Fs, Fc, Fv, Fh, Fw, AV, AH, AW, EV, ⟨ne1, ne2, ne3, ne4, ne5, ne6⟩, go, ga1, ga2, ga3⟩ := O
  have hmn := I.2.2.2.2.2.2.1
  show own_Fin _ _ _ _ _ _ _ (T0.setTop (mkF m 0 #[.val (.ref x0), .unset, .unset, .unset, .unset, .unset] []))
  refine own_of (fun _ kk => XS.aloadN X0.here hx rfl (hb hby d4_0) rfl rfl kk) ?_
  show own_Fin _ _ _ _ _ _ _ (T0.setTop (mkF m 1 #[.val (.ref x0), .unset, .unset, .unset, .unset, .unset] [(.ref x0)]))
  refine own_getF X0 hx hZ hown (hw _ (List.mem_of_getElem? (i := 25) rfl)) e0 Fs (hb hby d4_1) ?_
  intro T1 X1 e1
  show own_Fin _ _ _ _ _ _ _ (T1.setTop (mkF m 4 #[.val (.ref x0), .unset, .unset, .unset, .unset, .unset] [(.int sz)]))
  refine own_newP X1 hx hZ (hw _ (List.mem_of_getElem? (i := 10) rfl)) e1 (hb hby d4_4) (n := kn) hsz (cap := 3) hk3 (by decide) (by decide) (by decide) ?_
  intro T2 h2 b2 X2 e2 E2 g2 A2
  have ne_x0_b2 : x0 ≠ b2 := Nat.ne_of_lt (by rw [g2]; exact E.lt)
  have ne_a1_b2 : a1 ≠ b2 := Nat.ne_of_lt (by rw [g2]; exact EV.lt)
  have ne_a2_b2 : a2 ≠ b2 := Nat.ne_of_lt (by rw [g2]; exact AH.lt)
  have ne_a3_b2 : a3 ≠ b2 := Nat.ne_of_lt (by rw [g2]; exact AW.lt)
  replace E := E.ext E2
  replace EV := EV.ext E2
  replace Fs := Fs.ext E2
  replace Fc := Fc.ext E2
  replace Fv := Fv.ext E2
  replace Fh := Fh.ext E2
  replace Fw := Fw.ext E2
  replace AV := AV.ext E2
  replace AH := AH.ext E2
  replace AW := AW.ext E2
  have Z2 : n0 ≤ h2.size := Nat.le_trans Z0 E2.1
  have ge_b2 : n0 ≤ b2 := by rw [g2]; exact Z0
  replace A2 : own_Arf Z h2 b2 .int kn (fun _ => (.int (0 : Int32))) := A2
  show own_Fin _ _ _ _ _ _ _ (T2.setTop (mkF m 6 #[.val (.ref x0), .unset, .unset, .unset, .unset, .unset] [(.ref b2)]))
  refine own_of (fun _ kk => XS.astoreN X2.here hx rfl (hb hby d4_6) rfl rfl (l' := #[.val (.ref x0), .val (.ref b2), .unset, .unset, .unset, .unset]) rfl kk) ?_
  show own_Fin _ _ _ _ _ _ _ (T2.setTop (mkF m 7 #[.val (.ref x0), .val (.ref b2), .unset, .unset, .unset, .unset] []))
  refine own_of (fun _ kk => XS.aloadN X2.here hx rfl (hb hby d4_7) rfl rfl kk) ?_
  show own_Fin _ _ _ _ _ _ _ (T2.setTop (mkF m 8 #[.val (.ref x0), .val (.ref b2), .unset, .unset, .unset, .unset] [(.ref x0)]))
  refine own_getF X2 hx hZ hown (hw _ (List.mem_of_getElem? (i := 16) rfl)) e2 Fw (hb hby d4_8) ?_
  intro T3 X3 e3
  show own_Fin _ _ _ _ _ _ _ (T3.setTop (mkF m 11 #[.val (.ref x0), .val (.ref b2), .unset, .unset, .unset, .unset] [(.ref a3)]))
  refine own_of (fun _ kk => XS.iconst X3.here hx rfl (hb hby d4_11) kk) ?_
  show own_Fin _ _ _ _ _ _ _ (T3.setTop (mkF m 12 #[.val (.ref x0), .val (.ref b2), .unset, .unset, .unset, .unset] [(.int (0 : Int32)), (.ref a3)]))
  refine own_of (fun _ kk => XS.aloadN X3.here hx rfl (hb hby d4_12) rfl rfl kk) ?_
  show own_Fin _ _ _ _ _ _ _ (T3.setTop (mkF m 13 #[.val (.ref x0), .val (.ref b2), .unset, .unset, .unset, .unset] [(.ref x0), (.int (0 : Int32)), (.ref a3)]))
  refine own_getF X3 hx hZ hown (hw _ (List.mem_of_getElem? (i := 23) rfl)) e3 Fc (hb hby d4_13) ?_
  intro T4 X4 e4
  show own_Fin _ _ _ _ _ _ _ (T4.setTop (mkF m 16 #[.val (.ref x0), .val (.ref b2), .unset, .unset, .unset, .unset] [(.int wc), (.int (0 : Int32)), (.ref a3)]))
  have OO : own_VS Z h2 n0 x0 cap nw sz wc a1 a2 a3 V H D := ⟨E, Fs, Fc, Fv, Fh, Fw, AV, AH, AW, EV, ⟨ne1, ne2, ne3, ne4, ne5, ne6⟩, go, ga1, ga2, ga3⟩
  refine own_callS X4 hx hZ hown (hw _ (List.mem_of_getElem? (i := 32) rfl)) (hw _ (List.mem_of_getElem? (i := 33) rfl)) (hw _ (List.mem_of_getElem? (i := 34) rfl)) (hw _ (List.mem_of_getElem? (i := 35) rfl)) (by decide) e4 (argsL := [(.ref a3), (.int (0 : Int32)), (.int wc)]) (met5 l Z a0 hw a3 wc km nw D zw h2 n0 Z2 hwc hkm1 (by omega) AW ga3 hnwk hz) (W := 0) (by decide) (by decide) (by decide) (by decide) (by rw [hml]; rfl) pd_10 rfl (rest := []) rfl (Nat.le_of_eq rfl) (hb hby d4_16) ?_
  intro v5 T5 h5 L5 X5 e5 q5
  obtain ⟨rfl, N5q, Z5, g, A5, K5, P5⟩ := q5
  have N5 := Fr.app N0 N5q
  show own_Fin _ _ _ _ _ _ _ (T5.setTop (mkF m 19 #[.val (.ref x0), .val (.ref b2), .unset, .unset, .unset, .unset] []))
  obtain ⟨E, Fs, Fc, Fv, Fh, Fw, AV, AH, AW, EV, -⟩ := OO.keepW K5 A5
  replace A2 := A2.keep K5 (ninS (Ne.symm ne_a3_b2) nin0)
  obtain ⟨I', hd⟩ := I.sorted (by omega) P5
  refine own_of (fun _ kk => XS.iconst X5.here hx rfl (hb hby d4_19) kk) ?_
  show own_Fin _ _ _ _ _ _ _ (T5.setTop (mkF m 20 #[.val (.ref x0), .val (.ref b2), .unset, .unset, .unset, .unset] [(.int (0 : Int32))]))
  refine own_of (fun _ kk => XS.istoreN X5.here hx rfl (hb hby d4_20) rfl (l' := #[.val (.ref x0), .val (.ref b2), .val (.int (0 : Int32)), .unset, .unset, .unset]) rfl kk) ?_
  show own_Fin _ _ _ _ _ _ _ (T5.setTop (mkF m 21 #[.val (.ref x0), .val (.ref b2), .val (.int (0 : Int32)), .unset, .unset, .unset] []))
  refine own_of (fun _ kk => XS.iconst X5.here hx rfl (hb hby d4_21) kk) ?_
  show own_Fin _ _ _ _ _ _ _ (T5.setTop (mkF m 22 #[.val (.ref x0), .val (.ref b2), .val (.int (0 : Int32)), .unset, .unset, .unset] [(.int (0 : Int32))]))
  refine own_of (fun _ kk => XS.istoreN X5.here hx rfl (hb hby d4_22) rfl (l' := #[.val (.ref x0), .val (.ref b2), .val (.int (0 : Int32)), .val (.int (0 : Int32)), .unset, .unset]) rfl kk) ?_
  show own_Fin _ _ _ _ _ _ _ (T5.setTop (mkF m 23 #[.val (.ref x0), .val (.ref b2), .val (.int (0 : Int32)), .val (.int (0 : Int32)), .unset, .unset] []))
  refine own_of (fun _ kk => XS.iloadN X5.here hx rfl (hb hby d4_23) rfl kk) ?_
  show own_Fin _ _ _ _ _ _ _ (T5.setTop (mkF m 24 #[.val (.ref x0), .val (.ref b2), .val (.int (0 : Int32)), .val (.int (0 : Int32)), .unset, .unset] [(.int (0 : Int32))]))
  refine own_of (fun _ kk => XS.aloadN X5.here hx rfl (hb hby d4_24) rfl rfl kk) ?_
  show own_Fin _ _ _ _ _ _ _ (T5.setTop (mkF m 25 #[.val (.ref x0), .val (.ref b2), .val (.int (0 : Int32)), .val (.int (0 : Int32)), .unset, .unset] [(.ref x0), (.int (0 : Int32))]))
  refine own_getF X5 hx hZ hown (hw _ (List.mem_of_getElem? (i := 23) rfl)) e5 Fc (hb hby d4_25) ?_
  intro T6 X6 e6
  show own_Fin _ _ _ _ _ _ _ (T6.setTop (mkF m 28 #[.val (.ref x0), .val (.ref b2), .val (.int (0 : Int32)), .val (.int (0 : Int32)), .unset, .unset] [(.int wc), (.int (0 : Int32))]))
  refine own_of (fun _ kk => XS.icmpNo X6.here hx rfl (hb hby d4_28) rfl (tlt (by rw [Int32.lt_iff_toInt_lt]; have k0 : (0 : Int32).toInt = 0 := (by decide); omega)).2.1 kk) ?_
  show own_Fin _ _ _ _ _ _ _ (T6.setTop (mkF m 31 #[.val (.ref x0), .val (.ref b2), .val (.int (0 : Int32)), .val (.int (0 : Int32)), .unset, .unset] []))
  refine own_of (fun _ kk => XS.aloadN X6.here hx rfl (hb hby d4_31) rfl rfl kk) ?_
  show own_Fin _ _ _ _ _ _ _ (T6.setTop (mkF m 32 #[.val (.ref x0), .val (.ref b2), .val (.int (0 : Int32)), .val (.int (0 : Int32)), .unset, .unset] [(.ref x0)]))
  refine own_getF X6 hx hZ hown (hw _ (List.mem_of_getElem? (i := 14) rfl)) e6 Fh (hb hby d4_32) ?_
  intro T7 X7 e7
  show own_Fin _ _ _ _ _ _ _ (T7.setTop (mkF m 35 #[.val (.ref x0), .val (.ref b2), .val (.int (0 : Int32)), .val (.int (0 : Int32)), .unset, .unset] [(.ref a2)]))
  refine own_of (fun _ kk => XS.aloadN X7.here hx rfl (hb hby d4_35) rfl rfl kk) ?_
  show own_Fin _ _ _ _ _ _ _ (T7.setTop (mkF m 36 #[.val (.ref x0), .val (.ref b2), .val (.int (0 : Int32)), .val (.int (0 : Int32)), .unset, .unset] [(.ref x0), (.ref a2)]))
  refine own_getF X7 hx hZ hown (hw _ (List.mem_of_getElem? (i := 16) rfl)) e7 Fw (hb hby d4_36) ?_
  intro T8 X8 e8
  show own_Fin _ _ _ _ _ _ _ (T8.setTop (mkF m 39 #[.val (.ref x0), .val (.ref b2), .val (.int (0 : Int32)), .val (.int (0 : Int32)), .unset, .unset] [(.ref a3), (.ref a2)]))
  refine own_of (fun _ kk => XS.iloadN X8.here hx rfl (hb hby d4_39) rfl kk) ?_
  show own_Fin _ _ _ _ _ _ _ (T8.setTop (mkF m 40 #[.val (.ref x0), .val (.ref b2), .val (.int (0 : Int32)), .val (.int (0 : Int32)), .unset, .unset] [(.int (0 : Int32)), (.ref a3), (.ref a2)]))
  refine own_iaload X8 hx hZ e8 AW (i := 0) (by decide) (by omega) (v := (.int (g 0))) rfl (hb hby d4_40) ?_
  show own_Fin _ _ _ _ _ _ _ (T8.setTop (mkF m 41 #[.val (.ref x0), .val (.ref b2), .val (.int (0 : Int32)), .val (.int (0 : Int32)), .unset, .unset] [(.int (g 0)), (.ref a2)]))
  refine own_laload X8 hx hZ e8 AH (i := ((g 0).toInt.toNat)) (I'.2.2.1 0 (by omega)).1 (I'.2.2.1 0 (by omega)).2 (v := (.long (H ((g 0).toInt.toNat)))) rfl (hb hby d4_41) ?_
  show own_Fin _ _ _ _ _ _ _ (T8.setTop (mkF m 42 #[.val (.ref x0), .val (.ref b2), .val (.int (0 : Int32)), .val (.int (0 : Int32)), .unset, .unset] [(.long (H ((g 0).toInt.toNat)))]))
  refine own_of (fun _ kk => XS.lstore X8.here hx rfl (hb hby d4_42) rfl (l' := #[.val (.ref x0), .val (.ref b2), .val (.int (0 : Int32)), .val (.int (0 : Int32)), .val (.long (H ((g 0).toInt.toNat))), .second]) rfl kk) ?_
  show own_Fin _ _ _ _ _ _ _ (T8.setTop (mkF m 44 #[.val (.ref x0), .val (.ref b2), .val (.int (0 : Int32)), .val (.int (0 : Int32)), .val (.long (H ((g 0).toInt.toNat))), .second] []))
  exact own_inner l Z a0 hw x0 cap nw sz wc a1 a2 a3 V H g kn km ee T b2 0 0 n0 hx hby hml hown hZ hret hlk hwc (by omega) hk3 hnw I' hd hT hTe hlt ne1 ne2 ne3 ne4 ne5 ne6 go ga1 ga2 ga3 ne_x0_b2 ne_a1_b2 ne_a2_b2 ne_a3_b2 ge_b2 (by omega) (by decide) (fun jc c2 r4 R T0 locs h0 X N Z0 e0 hjn hc2 E Fs Fc Fv Fh Fw AV AH AW EV AB hR hO hL => own_outer l Z a0 hw x0 cap nw sz wc a1 a2 a3 V H g kn km ee T b2 n0 hx hby hml hown hZ hret hlk hwc (by omega) hk3 hnw I' hd hT hTe hlt ne1 ne2 ne3 ne4 ne5 ne6 go ga1 ga2 ga3 ne_x0_b2 ne_a1_b2 ne_a2_b2 ne_a3_b2 ge_b2 (km - 1) 1 jc c2 (0 + 1) r4 R T0 locs h0 X N Z0 e0 (by omega) hjn hc2 (by decide) E Fs Fc Fv Fh Fw AV AH AW EV AB hR hO hL) kn 0 0 _ (fun _ => 0) T8 _ h5 (own_wide X8 (by decide) (by decide)) N5 Z5 e8 (by omega) (Nat.zero_le _) (by decide) (own_rb0 I' hTe hd (by omega) (fun t h => absurd h (Nat.not_lt_zero t))) E Fs Fc Fv Fh Fw AV AH AW EV A2 (fun t h => absurd h (Nat.not_lt_zero t)) (own_O0 I' hTe) (fun t h => absurd h (Nat.not_lt_zero t))
def own_cp (x0 : Int32) : Int32 := (1 : Int32) + ((x0 &&& (2147483647 : Int32)) % (200 : Int32))
def own_el (x0 y : Int32) : Int32 := (y &&& (2147483647 : Int32)) % own_cp x0
def own_nwI (x0 : Int32) : Int32 := ((own_cp x0 + (64 : Int32)) - (1 : Int32)) / (64 : Int32)
theorem own_pos (x : Int32) : 0 ≤ (x &&& (2147483647 : Int32)).toInt := by rw [c_mask x 2147483647 31 (by decide) (by decide)]; omega
theorem own_cpr (x0 : Int32) : 1 ≤ (own_cp x0).toInt ∧ (own_cp x0).toInt ≤ 200 := by
  have h1 := (c_irem (x0 &&& 2147483647) 200 200 (by decide)).1 (own_pos x0)
  have h2 := c_iadd 1 ((x0 &&& 2147483647) % 200)
  have h3 := rng32 (1 + (x0 &&& 2147483647) % 200)
  have k1 : (1 : Int32).toInt = 1 := by decide
  show 1 ≤ ((1 : Int32) + (x0 &&& 2147483647) % 200).toInt ∧ ((1 : Int32) + (x0 &&& 2147483647) % 200).toInt ≤ 200
  omega
theorem own_cpz (x0 : Int32) : own_cp x0 ≠ 0 := fun e => by
  have h := own_cpr x0; rw [e] at h; have k0 : (0 : Int32).toInt = 0 := by decide
  omega
def own_cN (x0 : Int32) : Nat := (own_cp x0).toInt.toNat
def own_eN (x0 y : Int32) : Nat := (own_el x0 y).toInt.toNat
def own_wN (x0 : Int32) : Nat := (own_cN x0 + 63) / 64
theorem own_cN1 (x0 : Int32) : (own_cp x0).toInt = (own_cN x0 : Int) ∧ 1 ≤ own_cN x0 ∧ own_cN x0 ≤ 200 := by have := own_cpr x0; unfold own_cN; omega
theorem own_eN1 (x0 y : Int32) : (own_el x0 y).toInt = (own_eN x0 y : Int) ∧ own_eN x0 y < own_cN x0 := by
  have h := own_cpr x0
  have h2 := (c_iremV (y &&& 2147483647) (own_cp x0)).1 (own_pos y) (by omega)
  unfold own_eN own_cN own_el; omega
theorem own_wN1 (x0 : Int32) : (own_nwI x0).toInt = (own_wN x0 : Int) ∧ own_wN x0 ≤ 4 ∧ own_cN x0 ≤ 64 * own_wN x0 := by
  have h := own_cN1 x0
  have a1 := c_iadd (own_cp x0) 64; have r1 := rng32 (own_cp x0 + 64); have a2 := c_isub (own_cp x0 + 64) 1; have r2 := rng32 (own_cp x0 + 64 - 1)
  have k1 : (1 : Int32).toInt = 1 := by decide
  have k64 : (64 : Int32).toInt = 64 := by decide
  have a3 := (c_idiv (own_cp x0 + 64 - 1) 64 64 (by decide) (by decide)).1 (by omega)
  unfold own_nwI own_wN
  omega
theorem own_inv0 (cap nw : Nat) (h : cap ≤ 64 * nw) : own_Inv cap nw 0 0 (fun _ => 0) (fun _ => 0) (fun _ => 0) (fun _ => 0) (fun _ => 0) := by
  refine ⟨fun t h => absurd h (Nat.not_lt_zero t), fun t u h => absurd h (Nat.not_lt_zero t), fun t h => absurd h (Nat.not_lt_zero t), fun t u h => absurd h (Nat.not_lt_zero t), fun w hw p hp => ⟨fun h => ?_, fun ⟨t, h, _⟩ => absurd h (Nat.not_lt_zero t)⟩, fun w => ⟨fun ⟨t, h, _⟩ => absurd h (Nat.not_lt_zero t), fun ⟨t, h, _⟩ => absurd h (Nat.not_lt_zero t)⟩, Nat.le_refl _, h⟩
  rw [(own_z64 0).mp rfl p hp] at h; cases h
theorem own_Ext.le {e e' : Nat → Nat} {n n' x : Nat} (h : own_Ext e n x e' n') : n' ≤ n + 1 := by rcases h with ⟨-, h, -⟩ | ⟨-, h, -⟩ <;> omega
theorem own_Inv.m1 {cap nw n m : Nat} {e d : Nat → Nat} {V D : Nat → Int32} {H : Nat → Int64} (I : own_Inv cap nw n m e d V D H) (h : 1 ≤ n) : 1 ≤ m := by
  obtain ⟨i, h1, -⟩ := (I.2.2.2.2.2.1 (e 0 / 64)).mpr ⟨0, by omega, rfl⟩
  omega
theorem own_Inv.mle {cap nw n m : Nat} {e d : Nat → Nat} {V D : Nat → Int32} {H : Nat → Int64} (I : own_Inv cap nw n m e d V D H) (h : n ≤ 3) : m ≤ nw := by
  obtain ⟨i1, i2, i3, i4, i5, i6, i7, i8⟩ := I
  obtain rfl | rfl | rfl | rfl : m = 0 ∨ m = 1 ∨ m = 2 ∨ m = 3 := by omega
  · omega
  · have := (i3 0 (by decide)).2; omega
  · have := (i3 0 (by decide)).2; have := (i3 1 (by decide)).2
    have : ¬ d 0 = d 1 := fun q => absurd (i4 0 1 (by decide) (by decide) q) (by decide)
    omega
  · have := (i3 0 (by decide)).2; have := (i3 1 (by decide)).2; have := (i3 2 (by decide)).2
    have : ¬ d 0 = d 1 := fun q => absurd (i4 0 1 (by decide) (by decide) q) (by decide)
    have : ¬ d 0 = d 2 := fun q => absurd (i4 0 2 (by decide) (by decide) q) (by decide)
    have : ¬ d 1 = d 2 := fun q => absurd (i4 1 2 (by decide) (by decide) q) (by decide)
    omega
theorem own_cases3 {e0 e1 e2 e3 : Nat → Nat} {n1 n2 n3 a b c : Nat} (x1 : own_Ext e0 0 a e1 n1) (x2 : own_Ext e1 n1 b e2 n2) (x3 : own_Ext e2 n2 c e3 n3) :
    (n3 = 1 ∧ e3 0 = a ∧ b = a ∧ c = a) ∨ (n3 = 2 ∧ e3 0 = a ∧ e3 1 = b ∧ ¬ b = a ∧ (c = a ∨ c = b)) ∨ (n3 = 2 ∧ e3 0 = a ∧ e3 1 = c ∧ b = a ∧ ¬ c = a) ∨ (n3 = 3 ∧ e3 0 = a ∧ e3 1 = b ∧ e3 2 = c ∧ ¬ b = a ∧ ¬ c = a ∧ ¬ c = b) := by
  obtain ⟨⟨t, ht, -⟩, -⟩ | ⟨-, rfl, rfl⟩ := x1
  · exact absurd ht (Nat.not_lt_zero t)
  have u0 : own_upd e0 0 a 0 = a := rfl
  obtain ⟨⟨t, ht, he⟩, rfl, rfl⟩ | ⟨hno, rfl, rfl⟩ := x2
  · obtain rfl : t = 0 := by omega
    rw [u0] at he
    obtain ⟨⟨t, ht, hc⟩, rfl, rfl⟩ | ⟨hnc, rfl, rfl⟩ := x3
    · obtain rfl : t = 0 := by omega
      rw [u0] at hc
      exact Or.inl ⟨rfl, rfl, he.symm, hc.symm⟩
    · have := hnc 0 (by decide)
      rw [u0] at this
      exact Or.inr (Or.inr (Or.inl ⟨rfl, rfl, rfl, he.symm, fun q => this q.symm⟩))
  · have hb := hno 0 (by decide)
    rw [u0] at hb
    obtain ⟨⟨t, ht, hc⟩, rfl, rfl⟩ | ⟨hnc, rfl, rfl⟩ := x3
    · refine Or.inr (Or.inl ⟨rfl, rfl, rfl, fun q => hb q.symm, ?_⟩)
      obtain rfl | rfl : t = 0 ∨ t = 1 := by omega
      · exact Or.inl hc.symm
      · exact Or.inr hc.symm
    · have h0 := hnc 0 (by decide)
      have h1 := hnc 1 (by decide)
      exact Or.inr (Or.inr (Or.inr ⟨rfl, rfl, rfl, rfl, fun q => hb q.symm, fun q => h0 q.symm, fun q => h1 q.symm⟩))
def own_lo (a b c : Nat) : Nat := min a (min b c)
def own_hi (a b c : Nat) : Nat := max a (max b c)
def own_mid (a b c : Nat) : Nat := a + b + c - own_lo a b c - own_hi a b c
def own_T (a b c : Nat) (t : Nat) : Nat := if t = 0 then own_lo a b c else (if t = 1 then (if own_mid a b c = own_lo a b c then own_hi a b c else own_mid a b c) else own_hi a b c)
theorem own_T0 (a b c : Nat) : own_T a b c 0 = own_lo a b c := rfl
theorem own_T1p {a b c : Nat} (h : own_mid a b c = own_lo a b c) : own_T a b c 1 = own_hi a b c := by unfold own_T; rw [if_neg (by decide), if_pos rfl, if_pos h]
theorem own_T1n {a b c : Nat} (h : ¬ own_mid a b c = own_lo a b c) : own_T a b c 1 = own_mid a b c := by unfold own_T; rw [if_neg (by decide), if_pos rfl, if_neg h]
theorem own_T2 (a b c : Nat) : own_T a b c 2 = own_hi a b c := rfl
theorem own_ieq {x y : Int32} {p q : Nat} (hx : x.toInt = (p : Int)) (hy : y.toInt = (q : Int)) : x = y ↔ p = q := by rw [← Int32.toInt_inj, hx, hy]; omega
theorem own_fgtt {R : Nat → Int32} {a b c n3 : Nat} {q12 q13 q14 : Int32} (hR : ∀ t, t < n3 → (R t).toInt = (own_T a b c t : Int)) (hn : (own_mid a b c = own_lo a b c → own_hi a b c = own_mid a b c → n3 = 1) ∧ (own_mid a b c = own_lo a b c → ¬ own_hi a b c = own_mid a b c → n3 = 2) ∧ (¬ own_mid a b c = own_lo a b c → own_hi a b c = own_mid a b c → n3 = 2) ∧ (¬ own_mid a b c = own_lo a b c → ¬ own_hi a b c = own_mid a b c → n3 = 3)) (hlo : q12.toInt = (own_lo a b c : Int)) (hhi : q13.toInt = (own_hi a b c : Int)) (hmid : q14.toInt = (own_mid a b c : Int)) (c154 : q14 = q12) (c171 : q13 = q14) : n3 = 1 ∧ ∀ j, j < 1 → R j = (fun j => (if j = 0 then q12 else (0 : Int32))) j := by
  rw [own_ieq hmid hlo] at c154
  rw [own_ieq hhi hmid] at c171
  have hk := hn.1 c154 c171
  subst hk
  refine ⟨rfl, fun j hj => ?_⟩
  rcases (show j = 0 by omega) with rfl
  · have h := hR 0 (by decide)
    rw [(own_T0 a b c)] at h
    exact (own_ieq h hlo).mpr rfl
theorem own_fgtf {R : Nat → Int32} {a b c n3 : Nat} {q12 q13 q14 : Int32} (hR : ∀ t, t < n3 → (R t).toInt = (own_T a b c t : Int)) (hn : (own_mid a b c = own_lo a b c → own_hi a b c = own_mid a b c → n3 = 1) ∧ (own_mid a b c = own_lo a b c → ¬ own_hi a b c = own_mid a b c → n3 = 2) ∧ (¬ own_mid a b c = own_lo a b c → own_hi a b c = own_mid a b c → n3 = 2) ∧ (¬ own_mid a b c = own_lo a b c → ¬ own_hi a b c = own_mid a b c → n3 = 3)) (hlo : q12.toInt = (own_lo a b c : Int)) (hhi : q13.toInt = (own_hi a b c : Int)) (hmid : q14.toInt = (own_mid a b c : Int)) (c154 : q14 = q12) (c171 : ¬ q13 = q14) : n3 = 2 ∧ ∀ j, j < 2 → R j = (fun j => (if j = 1 then q13 else (if j = 0 then q12 else (0 : Int32)))) j := by
  rw [own_ieq hmid hlo] at c154
  rw [own_ieq hhi hmid] at c171
  have hk := hn.2.1 c154 c171
  subst hk
  refine ⟨rfl, fun j hj => ?_⟩
  rcases (show j = 0 ∨ j = 1 by omega) with rfl | rfl
  · have h := hR 0 (by decide)
    rw [(own_T0 a b c)] at h
    exact (own_ieq h hlo).mpr rfl
  · have h := hR 1 (by decide)
    rw [(own_T1p c154)] at h
    exact (own_ieq h hhi).mpr rfl
theorem own_fgft {R : Nat → Int32} {a b c n3 : Nat} {q12 q13 q14 : Int32} (hR : ∀ t, t < n3 → (R t).toInt = (own_T a b c t : Int)) (hn : (own_mid a b c = own_lo a b c → own_hi a b c = own_mid a b c → n3 = 1) ∧ (own_mid a b c = own_lo a b c → ¬ own_hi a b c = own_mid a b c → n3 = 2) ∧ (¬ own_mid a b c = own_lo a b c → own_hi a b c = own_mid a b c → n3 = 2) ∧ (¬ own_mid a b c = own_lo a b c → ¬ own_hi a b c = own_mid a b c → n3 = 3)) (hlo : q12.toInt = (own_lo a b c : Int)) (hhi : q13.toInt = (own_hi a b c : Int)) (hmid : q14.toInt = (own_mid a b c : Int)) (c154 : ¬ q14 = q12) (c171 : q13 = q14) : n3 = 2 ∧ ∀ j, j < 2 → R j = (fun j => (if j = 1 then q14 else (if j = 0 then q12 else (0 : Int32)))) j := by
  rw [own_ieq hmid hlo] at c154
  rw [own_ieq hhi hmid] at c171
  have hk := hn.2.2.1 c154 c171
  subst hk
  refine ⟨rfl, fun j hj => ?_⟩
  rcases (show j = 0 ∨ j = 1 by omega) with rfl | rfl
  · have h := hR 0 (by decide)
    rw [(own_T0 a b c)] at h
    exact (own_ieq h hlo).mpr rfl
  · have h := hR 1 (by decide)
    rw [(own_T1n c154)] at h
    exact (own_ieq h hmid).mpr rfl
theorem own_fgff {R : Nat → Int32} {a b c n3 : Nat} {q12 q13 q14 : Int32} (hR : ∀ t, t < n3 → (R t).toInt = (own_T a b c t : Int)) (hn : (own_mid a b c = own_lo a b c → own_hi a b c = own_mid a b c → n3 = 1) ∧ (own_mid a b c = own_lo a b c → ¬ own_hi a b c = own_mid a b c → n3 = 2) ∧ (¬ own_mid a b c = own_lo a b c → own_hi a b c = own_mid a b c → n3 = 2) ∧ (¬ own_mid a b c = own_lo a b c → ¬ own_hi a b c = own_mid a b c → n3 = 3)) (hlo : q12.toInt = (own_lo a b c : Int)) (hhi : q13.toInt = (own_hi a b c : Int)) (hmid : q14.toInt = (own_mid a b c : Int)) (c154 : ¬ q14 = q12) (c171 : ¬ q13 = q14) : n3 = 3 ∧ ∀ j, j < 3 → R j = (fun j => (if j = 2 then q13 else (if j = 1 then q14 else (if j = 0 then q12 else (0 : Int32))))) j := by
  rw [own_ieq hmid hlo] at c154
  rw [own_ieq hhi hmid] at c171
  have hk := hn.2.2.2 c154 c171
  subst hk
  refine ⟨rfl, fun j hj => ?_⟩
  rcases (show j = 0 ∨ j = 1 ∨ j = 2 by omega) with rfl | rfl | rfl
  · have h := hR 0 (by decide)
    rw [(own_T0 a b c)] at h
    exact (own_ieq h hlo).mpr rfl
  · have h := hR 1 (by decide)
    rw [(own_T1n c154)] at h
    exact (own_ieq h hmid).mpr rfl
  · have h := hR 2 (by decide)
    rw [(own_T2 a b c)] at h
    exact (own_ieq h hhi).mpr rfl
set_option maxRecDepth 65536 in
set_option maxHeartbeats 40000000 in
theorem own_srt {e0 e1 e2 e3 : Nat → Nat} {n1 n2 n3 a b c : Nat} (x1 : own_Ext e0 0 a e1 n1) (x2 : own_Ext e1 n1 b e2 n2) (x3 : own_Ext e2 n2 c e3 n3) :
    (∀ t u, t < u → u < n3 → own_T a b c t < own_T a b c u) ∧ (∀ x, (∃ t, t < n3 ∧ own_T a b c t = x) ↔ ∃ t, t < n3 ∧ e3 t = x) ∧ 1 ≤ n3 ∧ n3 ≤ 3 ∧ (own_mid a b c = own_lo a b c → own_hi a b c = own_mid a b c → n3 = 1) ∧ (own_mid a b c = own_lo a b c → ¬ own_hi a b c = own_mid a b c → n3 = 2) ∧ (¬ own_mid a b c = own_lo a b c → own_hi a b c = own_mid a b c → n3 = 2) ∧ (¬ own_mid a b c = own_lo a b c → ¬ own_hi a b c = own_mid a b c → n3 = 3) := by
  have hc := own_cases3 x1 x2 x3
  have h3 : n3 ≤ 3 := by omega
  have t0 : own_T a b c 0 = own_lo a b c := rfl
  have t1 : own_T a b c 1 = if own_mid a b c = own_lo a b c then own_hi a b c else own_mid a b c := rfl
  have t2 : own_T a b c 2 = own_hi a b c := rfl
  have dl : own_lo a b c = min a (min b c) := rfl
  have dh : own_hi a b c = max a (max b c) := rfl
  have dm : own_mid a b c = a + b + c - own_lo a b c - own_hi a b c := rfl
  generalize own_lo a b c = lo at *
  generalize own_hi a b c = hi at *
  generalize own_mid a b c = mid at *
  generalize own_T a b c = T at *
  refine ⟨fun t u h1 h2 => ?_, fun x => ?_, by omega, h3, by omega, by omega, by omega, by omega⟩
  · have : (t = 0 ∧ u = 1) ∨ (t = 0 ∧ u = 2) ∨ (t = 1 ∧ u = 2) := by omega
    rcases this with ⟨rfl, rfl⟩ | ⟨rfl, rfl⟩ | ⟨rfl, rfl⟩
    · rw [t0, t1]; split <;> omega
    · rw [t0, t2]; omega
    · rw [t1, t2]; split <;> omega
  · rw [own_ex3 n3 h3, own_ex3 n3 h3, t0, t1, t2]
    obtain ⟨l0, l1, l2, l3⟩ : lo ≤ a ∧ lo ≤ b ∧ lo ≤ c ∧ (lo = a ∨ lo = b ∨ lo = c) := by omega
    obtain ⟨h0, h1, h2, h3⟩ : a ≤ hi ∧ b ≤ hi ∧ c ≤ hi ∧ (hi = a ∨ hi = b ∨ hi = c) := by omega
    have dm : mid + lo + hi = a + b + c := by omega
    clear dl dh
    rcases hc with ⟨rfl, g0, rfl, rfl⟩ | ⟨rfl, g0, g1, g2, g3⟩ | ⟨rfl, g0, g1, rfl, g2⟩ | ⟨rfl, g0, g1, g2, g3, g4, g5⟩
    · simp; omega
    · simp only [g0, g1]; simp
      rcases g3 with rfl | rfl <;> split <;> (constructor <;> (rintro (q | q)) <;> omega)
    · simp only [g0, g1]; simp
      split <;> (constructor <;> (rintro (q | q)) <;> omega)
    · simp only [g0, g1, g2]; simp
      split
      · omega
      · constructor <;> (rintro (q | q | q)) <;> omega
theorem own_Inv.nle {cap nw n m : Nat} {e d : Nat → Nat} {V D : Nat → Int32} {H : Nat → Int64} (I : own_Inv cap nw n m e d V D H) (h : n ≤ 3) : n ≤ cap := by
  obtain ⟨i1, i2, -⟩ := I
  obtain rfl | rfl | rfl | rfl : n = 0 ∨ n = 1 ∨ n = 2 ∨ n = 3 := by omega
  · omega
  · have := (i1 0 (by decide)).2; omega
  · have := (i1 0 (by decide)).2; have := (i1 1 (by decide)).2
    have : ¬ e 0 = e 1 := fun q => absurd (i2 0 1 (by decide) (by decide) q) (by decide)
    omega
  · have := (i1 0 (by decide)).2; have := (i1 1 (by decide)).2; have := (i1 2 (by decide)).2
    have : ¬ e 0 = e 1 := fun q => absurd (i2 0 1 (by decide) (by decide) q) (by decide)
    have : ¬ e 0 = e 2 := fun q => absurd (i2 0 2 (by decide) (by decide) q) (by decide)
    have : ¬ e 1 = e 2 := fun q => absurd (i2 1 2 (by decide) (by decide) q) (by decide)
    omega
theorem own_elN (x0 y z : Int32) : own_el x0 y = own_el x0 z ↔ own_eN x0 y = own_eN x0 z := by
  rw [← Int32.toInt_inj, (own_eN1 x0 y).1, (own_eN1 x0 z).1]
  omega
theorem own_minI {x y : Int32} {p q : Nat} (hx : x.toInt = (p : Int)) (hy : y.toInt = (q : Int)) : (own_f13 x y).toInt = ((min p q : Nat) : Int) := by
  unfold own_f13
  by_cases h : y < x
  · rw [if_pos h]; rw [Int32.lt_iff_toInt_lt] at h; omega
  · rw [if_neg h]; rw [Int32.lt_iff_toInt_lt] at h; omega
theorem own_maxI {x y : Int32} {p q : Nat} (hx : x.toInt = (p : Int)) (hy : y.toInt = (q : Int)) : (own_f14 x y).toInt = ((max p q : Nat) : Int) := by
  unfold own_f14
  by_cases h : x < y
  · rw [if_pos h]; rw [Int32.lt_iff_toInt_lt] at h; omega
  · rw [if_neg h]; rw [Int32.lt_iff_toInt_lt] at h; omega
theorem own_midI {x y z l h : Int32} {a b c lo hi : Nat} (hx : x.toInt = (a : Int)) (hy : y.toInt = (b : Int)) (hz : z.toInt = (c : Int)) (hl : l.toInt = (lo : Int)) (hh : h.toInt = (hi : Int)) (ha : a < 1000) (hb : b < 1000) (hc : c < 1000) (dl : lo = min a (min b c)) (dh : hi = max a (max b c)) : (((x + y) + z) - l - h).toInt = ((a + b + c - lo - hi : Nat) : Int) := by
  have a1 := c_iadd x y; have r1 := rng32 (x + y); have a2 := c_iadd (x + y) z; have r2 := rng32 (x + y + z); have a3 := c_isub (x + y + z) l; have r3 := rng32 (x + y + z - l); have a4 := c_isub (x + y + z - l) h; have r4 := rng32 (x + y + z - l - h)
  omega
set_option maxRecDepth 65536 in
set_option maxHeartbeats 40000000 in
theorem own_p2 (l : Launch) (Z : State) (a0 : Array Value) (hw : ∀ d ∈ tables_1, d.before a0 Z = true) (x0 : Int32) (x1 : Int32) (x2 : Int32) (x3 : Int32) (x4 : Int32) (o : Addr) (a1 : Addr) (a2 : Addr) (a3 : Addr) (V : Nat → Int32) (H : Nat → Int64) (D : Nat → Int32) (ee : Nat → Nat) (dd : Nat → Nat) (q11 : Addr) (q12 : Int32) (q13 : Int32) (q14 : Int32) (q15 : Addr) (q16 : Int32) (n0 : Nat) {p : Program} {e : Env} {s : State} {m : MethodId} {args : Array Value} {below : List Frame} {meth : Method} {c : Code} (hx : p.tables.exec = Jvm.exec) (hby : c.code = code) (hml : c.maxLocals = 20) (hown : s.vm.findClass "com/example/shardloom/shardloom/VertexSetAddPinLaw" = some m.cls) (hZ : Z.Warmed39 s.vm) (hret : meth.sig.returnType = ret) (hlk : meth.locks = false)
    (T0 : State) (locs : List Loc) (h0 : Heap) (X0 : Stand p l e room_1 s m args below meth c T0 locs (8) (240)) (N0 : Fr n0 locs) (Z0 : n0 ≤ h0.size) (e0 : T0.heap = h0) (O : own_VS Z h0 n0 o (own_cN x0) (own_wN x0) 0 0 a1 a2 a3 V H D) (I : own_Inv (own_cN x0) (own_wN x0) 0 0 ee dd V D H) : own_Fin p e below s (room_1.cells) (room_1.slots) (fun v h L => v = some (.int 1) ∧ Fr n0 L) (T0.setTop (mkF m 198 #[.val (.int x0), .val (.int x1), .val (.int x2), .val (.int x3), .val (.int x4), .val (.int (own_cp x0)), .val (.int (own_el x0 x1)), .val (.int (own_el x0 x2)), .val (.int (own_el x0 x3)), .val (.int (own_el x0 x4)), .val (.ref o), .val (.ref q11), .val (.int q12), .val (.int q13), .val (.int q14), .val (.ref q15), .val (.int q16), .unset, .unset, .unset] [])) := by
  show own_Fin _ _ _ _ _ _ _ (T0.setTop (mkF m 198 #[.val (.int x0), .val (.int x1), .val (.int x2), .val (.int x3), .val (.int x4), .val (.int (own_cp x0)), .val (.int (own_el x0 x1)), .val (.int (own_el x0 x2)), .val (.int (own_el x0 x3)), .val (.int (own_el x0 x4)), .val (.ref o), .val (.ref q11), .val (.int q12), .val (.int q13), .val (.int q14), .val (.ref q15), .val (.int q16), .unset, .unset, .unset] []))
  refine own_of (fun _ kk => XS.aload X0.here hx rfl (hb hby at_198) rfl rfl kk) ?_
  show own_Fin _ _ _ _ _ _ _ (T0.setTop (mkF m 200 #[.val (.int x0), .val (.int x1), .val (.int x2), .val (.int x3), .val (.int x4), .val (.int (own_cp x0)), .val (.int (own_el x0 x1)), .val (.int (own_el x0 x2)), .val (.int (own_el x0 x3)), .val (.int (own_el x0 x4)), .val (.ref o), .val (.ref q11), .val (.int q12), .val (.int q13), .val (.int q14), .val (.ref q15), .val (.int q16), .unset, .unset, .unset] [(.ref o)]))
  refine own_of (fun _ kk => XS.iload X0.here hx rfl (hb hby at_200) rfl kk) ?_
  show own_Fin _ _ _ _ _ _ _ (T0.setTop (mkF m 202 #[.val (.int x0), .val (.int x1), .val (.int x2), .val (.int x3), .val (.int x4), .val (.int (own_cp x0)), .val (.int (own_el x0 x1)), .val (.int (own_el x0 x2)), .val (.int (own_el x0 x3)), .val (.int (own_el x0 x4)), .val (.ref o), .val (.ref q11), .val (.int q12), .val (.int q13), .val (.int q14), .val (.ref q15), .val (.int q16), .unset, .unset, .unset] [(.int (own_el x0 x4)), (.ref o)]))
  refine own_callV X0 hx hZ (y := (⟨"com/example/shardloom/shardloom/VertexSet", "add", "(I)V"⟩ : MethodName)) (z := (⟨"com/example/shardloom/shardloom/VertexSet", "add", "(I)V"⟩ : MethodName)) hown (hw _ (List.mem_of_getElem? (i := 18) rfl)) (hw _ (List.mem_of_getElem? (i := 19) rfl)) (notFace_of_selects (args := #[]) (mvT hZ (hw _ (List.mem_of_getElem? (i := 21) rfl)))) (hw _ (List.mem_of_getElem? (i := 21) rfl)) (hw _ (List.mem_of_getElem? (i := 20) rfl)) (hw _ (List.mem_of_getElem? (i := 3) rfl)) (hw _ (List.mem_of_getElem? (i := 22) rfl)) (by decide) e0 O.1 (argsL := [(.int (own_el x0 x4))]) (met3 l Z a0 hw o (own_el x0 x4) (own_cN x0) (own_wN x0) (0 : Int32) (0 : Int32) a1 a2 a3 V H D 0 0 ee dd (own_eN x0 x4) h0 n0 Z0 O (by decide) (by decide) I (by have := Nat.le_refl 0; omega) (own_eN1 x0 x4).1 (own_eN1 x0 x4).2) (W := 0) (by decide) (by decide) (by decide) (by decide) (by rw [hml]; rfl) pd_3 rfl (rest := []) rfl (Nat.le_of_eq rfl) (hb hby at_202) ?_
  intro v1 T1 h1 L1 X1 e1 q1
  obtain ⟨rfl, N1q, Z1, sz1, wc1, V1, H1, D1, nn1, mm1, en1, dn1, O1, hs1, hw1, I1, ex1⟩ := q1
  have N1 := Fr.app N0 N1q
  show own_Fin _ _ _ _ _ _ _ (T1.setTop (mkF m 205 #[.val (.int x0), .val (.int x1), .val (.int x2), .val (.int x3), .val (.int x4), .val (.int (own_cp x0)), .val (.int (own_el x0 x1)), .val (.int (own_el x0 x2)), .val (.int (own_el x0 x3)), .val (.int (own_el x0 x4)), .val (.ref o), .val (.ref q11), .val (.int q12), .val (.int q13), .val (.int q14), .val (.ref q15), .val (.int q16), .unset, .unset, .unset] []))
  have hb1 : nn1 ≤ 1 := by have := ex1.le; omega
  refine own_of (fun _ kk => XS.aload X1.here hx rfl (hb hby at_205) rfl rfl kk) ?_
  show own_Fin _ _ _ _ _ _ _ (T1.setTop (mkF m 207 #[.val (.int x0), .val (.int x1), .val (.int x2), .val (.int x3), .val (.int x4), .val (.int (own_cp x0)), .val (.int (own_el x0 x1)), .val (.int (own_el x0 x2)), .val (.int (own_el x0 x3)), .val (.int (own_el x0 x4)), .val (.ref o), .val (.ref q11), .val (.int q12), .val (.int q13), .val (.int q14), .val (.ref q15), .val (.int q16), .unset, .unset, .unset] [(.ref o)]))
  refine own_of (fun _ kk => XS.iload X1.here hx rfl (hb hby at_207) rfl kk) ?_
  show own_Fin _ _ _ _ _ _ _ (T1.setTop (mkF m 209 #[.val (.int x0), .val (.int x1), .val (.int x2), .val (.int x3), .val (.int x4), .val (.int (own_cp x0)), .val (.int (own_el x0 x1)), .val (.int (own_el x0 x2)), .val (.int (own_el x0 x3)), .val (.int (own_el x0 x4)), .val (.ref o), .val (.ref q11), .val (.int q12), .val (.int q13), .val (.int q14), .val (.ref q15), .val (.int q16), .unset, .unset, .unset] [(.int (own_el x0 x1)), (.ref o)]))
  refine own_callV X1 hx hZ (y := (⟨"com/example/shardloom/shardloom/VertexSet", "add", "(I)V"⟩ : MethodName)) (z := (⟨"com/example/shardloom/shardloom/VertexSet", "add", "(I)V"⟩ : MethodName)) hown (hw _ (List.mem_of_getElem? (i := 18) rfl)) (hw _ (List.mem_of_getElem? (i := 19) rfl)) (notFace_of_selects (args := #[]) (mvT hZ (hw _ (List.mem_of_getElem? (i := 21) rfl)))) (hw _ (List.mem_of_getElem? (i := 21) rfl)) (hw _ (List.mem_of_getElem? (i := 20) rfl)) (hw _ (List.mem_of_getElem? (i := 3) rfl)) (hw _ (List.mem_of_getElem? (i := 22) rfl)) (by decide) e1 O1.1 (argsL := [(.int (own_el x0 x1))]) (met3 l Z a0 hw o (own_el x0 x1) (own_cN x0) (own_wN x0) sz1 wc1 a1 a2 a3 V1 H1 D1 nn1 mm1 en1 dn1 (own_eN x0 x1) h1 n0 Z1 O1 hs1 hw1 I1 (by have := hb1; omega) (own_eN1 x0 x1).1 (own_eN1 x0 x1).2) (W := 0) (by decide) (by decide) (by decide) (by decide) (by rw [hml]; rfl) pd_3 rfl (rest := []) rfl (Nat.le_of_eq rfl) (hb hby at_209) ?_
  intro v2 T2 h2 L2 X2 e2 q2
  obtain ⟨rfl, N2q, Z2, sz2, wc2, V2, H2, D2, nn2, mm2, en2, dn2, O2, hs2, hw2, I2, ex2⟩ := q2
  have N2 := Fr.app N1 N2q
  show own_Fin _ _ _ _ _ _ _ (T2.setTop (mkF m 212 #[.val (.int x0), .val (.int x1), .val (.int x2), .val (.int x3), .val (.int x4), .val (.int (own_cp x0)), .val (.int (own_el x0 x1)), .val (.int (own_el x0 x2)), .val (.int (own_el x0 x3)), .val (.int (own_el x0 x4)), .val (.ref o), .val (.ref q11), .val (.int q12), .val (.int q13), .val (.int q14), .val (.ref q15), .val (.int q16), .unset, .unset, .unset] []))
  have hb2 : nn2 ≤ 2 := by have := ex2.le; have := hb1; omega
  refine own_of (fun _ kk => XS.aload X2.here hx rfl (hb hby at_212) rfl rfl kk) ?_
  show own_Fin _ _ _ _ _ _ _ (T2.setTop (mkF m 214 #[.val (.int x0), .val (.int x1), .val (.int x2), .val (.int x3), .val (.int x4), .val (.int (own_cp x0)), .val (.int (own_el x0 x1)), .val (.int (own_el x0 x2)), .val (.int (own_el x0 x3)), .val (.int (own_el x0 x4)), .val (.ref o), .val (.ref q11), .val (.int q12), .val (.int q13), .val (.int q14), .val (.ref q15), .val (.int q16), .unset, .unset, .unset] [(.ref o)]))
  refine own_of (fun _ kk => XS.iload X2.here hx rfl (hb hby at_214) rfl kk) ?_
  show own_Fin _ _ _ _ _ _ _ (T2.setTop (mkF m 216 #[.val (.int x0), .val (.int x1), .val (.int x2), .val (.int x3), .val (.int x4), .val (.int (own_cp x0)), .val (.int (own_el x0 x1)), .val (.int (own_el x0 x2)), .val (.int (own_el x0 x3)), .val (.int (own_el x0 x4)), .val (.ref o), .val (.ref q11), .val (.int q12), .val (.int q13), .val (.int q14), .val (.ref q15), .val (.int q16), .unset, .unset, .unset] [(.int (own_el x0 x2)), (.ref o)]))
  refine own_callV X2 hx hZ (y := (⟨"com/example/shardloom/shardloom/VertexSet", "add", "(I)V"⟩ : MethodName)) (z := (⟨"com/example/shardloom/shardloom/VertexSet", "add", "(I)V"⟩ : MethodName)) hown (hw _ (List.mem_of_getElem? (i := 18) rfl)) (hw _ (List.mem_of_getElem? (i := 19) rfl)) (notFace_of_selects (args := #[]) (mvT hZ (hw _ (List.mem_of_getElem? (i := 21) rfl)))) (hw _ (List.mem_of_getElem? (i := 21) rfl)) (hw _ (List.mem_of_getElem? (i := 20) rfl)) (hw _ (List.mem_of_getElem? (i := 3) rfl)) (hw _ (List.mem_of_getElem? (i := 22) rfl)) (by decide) e2 O2.1 (argsL := [(.int (own_el x0 x2))]) (met3 l Z a0 hw o (own_el x0 x2) (own_cN x0) (own_wN x0) sz2 wc2 a1 a2 a3 V2 H2 D2 nn2 mm2 en2 dn2 (own_eN x0 x2) h2 n0 Z2 O2 hs2 hw2 I2 (by have := hb2; omega) (own_eN1 x0 x2).1 (own_eN1 x0 x2).2) (W := 0) (by decide) (by decide) (by decide) (by decide) (by rw [hml]; rfl) pd_3 rfl (rest := []) rfl (Nat.le_of_eq rfl) (hb hby at_216) ?_
  intro v3 T3 h3 L3 X3 e3 q3
  obtain ⟨rfl, N3q, Z3, sz3, wc3, V3, H3, D3, nn3, mm3, en3, dn3, O3, hs3, hw3, I3, ex3⟩ := q3
  have N3 := Fr.app N2 N3q
  show own_Fin _ _ _ _ _ _ _ (T3.setTop (mkF m 219 #[.val (.int x0), .val (.int x1), .val (.int x2), .val (.int x3), .val (.int x4), .val (.int (own_cp x0)), .val (.int (own_el x0 x1)), .val (.int (own_el x0 x2)), .val (.int (own_el x0 x3)), .val (.int (own_el x0 x4)), .val (.ref o), .val (.ref q11), .val (.int q12), .val (.int q13), .val (.int q14), .val (.ref q15), .val (.int q16), .unset, .unset, .unset] []))
  have hb3 : nn3 ≤ 3 := by have := ex3.le; have := hb2; omega
  refine own_of (fun _ kk => XS.aload X3.here hx rfl (hb hby at_219) rfl rfl kk) ?_
  show own_Fin _ _ _ _ _ _ _ (T3.setTop (mkF m 221 #[.val (.int x0), .val (.int x1), .val (.int x2), .val (.int x3), .val (.int x4), .val (.int (own_cp x0)), .val (.int (own_el x0 x1)), .val (.int (own_el x0 x2)), .val (.int (own_el x0 x3)), .val (.int (own_el x0 x4)), .val (.ref o), .val (.ref q11), .val (.int q12), .val (.int q13), .val (.int q14), .val (.ref q15), .val (.int q16), .unset, .unset, .unset] [(.ref o)]))
  refine own_callV X3 hx hZ (y := (⟨"com/example/shardloom/shardloom/VertexSet", "takeAll", "()[I"⟩ : MethodName)) (z := (⟨"com/example/shardloom/shardloom/VertexSet", "takeAll", "()[I"⟩ : MethodName)) hown (hw _ (List.mem_of_getElem? (i := 72) rfl)) (hw _ (List.mem_of_getElem? (i := 73) rfl)) (notFace_of_selects (args := #[]) (mvT hZ (hw _ (List.mem_of_getElem? (i := 75) rfl)))) (hw _ (List.mem_of_getElem? (i := 75) rfl)) (hw _ (List.mem_of_getElem? (i := 74) rfl)) (hw _ (List.mem_of_getElem? (i := 3) rfl)) (hw _ (List.mem_of_getElem? (i := 76) rfl)) (by decide) e3 O3.1 (argsL := []) (met16 l Z a0 hw o (own_cN x0) (own_wN x0) sz3 wc3 a1 a2 a3 V3 H3 D3 nn3 mm3 en3 dn3 (own_cp x0) h3 n0 Z3 O3 hs3 hw3 I3 (own_cN1 x0).1 (own_cN1 x0).2.2 (I3.nle hb3) hb3 (fun i hi => Nat.lt_of_lt_of_le hi (I3.mle hb3))) (W := 0) (by decide) (by decide) (by decide) (by decide) (by rw [hml]; rfl) pd_1 rfl (rest := []) rfl (Nat.le_of_eq rfl) (hb hby at_221) ?_
  intro v4 T4 h4 L4 X4 e4 q4
  obtain ⟨bt, rfl, N4q, Z4, gbt, R, AB, hR, -⟩ := q4
  have N4 := Fr.app N3 N4q
  show own_Fin _ _ _ _ _ _ _ (T4.setTop (mkF m 224 #[.val (.int x0), .val (.int x1), .val (.int x2), .val (.int x3), .val (.int x4), .val (.int (own_cp x0)), .val (.int (own_el x0 x1)), .val (.int (own_el x0 x2)), .val (.int (own_el x0 x3)), .val (.int (own_el x0 x4)), .val (.ref o), .val (.ref q11), .val (.int q12), .val (.int q13), .val (.int q14), .val (.ref q15), .val (.int q16), .unset, .unset, .unset] [(.ref bt)]))
  have cs := own_cases3 ex1 ex2 ex3
  refine own_of (fun _ kk => XS.astore X4.here hx rfl (hb hby at_224) rfl rfl (l' := #[.val (.int x0), .val (.int x1), .val (.int x2), .val (.int x3), .val (.int x4), .val (.int (own_cp x0)), .val (.int (own_el x0 x1)), .val (.int (own_el x0 x2)), .val (.int (own_el x0 x3)), .val (.int (own_el x0 x4)), .val (.ref o), .val (.ref q11), .val (.int q12), .val (.int q13), .val (.int q14), .val (.ref q15), .val (.int q16), .val (.ref bt), .unset, .unset]) rfl kk) ?_
  show own_Fin _ _ _ _ _ _ _ (T4.setTop (mkF m 226 #[.val (.int x0), .val (.int x1), .val (.int x2), .val (.int x3), .val (.int x4), .val (.int (own_cp x0)), .val (.int (own_el x0 x1)), .val (.int (own_el x0 x2)), .val (.int (own_el x0 x3)), .val (.int (own_el x0 x4)), .val (.ref o), .val (.ref q11), .val (.int q12), .val (.int q13), .val (.int q14), .val (.ref q15), .val (.int q16), .val (.ref bt), .unset, .unset] []))
  refine own_of (fun _ kk => XS.iconst X4.here hx rfl (hb hby at_226) kk) ?_
  show own_Fin _ _ _ _ _ _ _ (T4.setTop (mkF m 227 #[.val (.int x0), .val (.int x1), .val (.int x2), .val (.int x3), .val (.int x4), .val (.int (own_cp x0)), .val (.int (own_el x0 x1)), .val (.int (own_el x0 x2)), .val (.int (own_el x0 x3)), .val (.int (own_el x0 x4)), .val (.ref o), .val (.ref q11), .val (.int q12), .val (.int q13), .val (.int q14), .val (.ref q15), .val (.int q16), .val (.ref bt), .unset, .unset] [(.int (3 : Int32))]))
  refine own_newP X4 hx hZ (hw _ (List.mem_of_getElem? (i := 10) rfl)) e4 (hb hby at_227) (n := 3) (by decide) (cap := 3) (Nat.le_refl _) (by decide) (by decide) (by decide) ?_
  intro T5 h5 b5 X5 e5 E5 g5 A5
  have ne_bt_b5 : bt ≠ b5 := Nat.ne_of_lt (by rw [g5]; exact AB.lt)
  replace AB := AB.ext E5
  have Z5 : n0 ≤ h5.size := Nat.le_trans Z4 E5.1
  have ge_b5 : n0 ≤ b5 := by rw [g5]; exact Z4
  replace A5 : own_Arf Z h5 b5 .int 3 (fun _ => (.int (0 : Int32))) := A5
  show own_Fin _ _ _ _ _ _ _ (T5.setTop (mkF m 229 #[.val (.int x0), .val (.int x1), .val (.int x2), .val (.int x3), .val (.int x4), .val (.int (own_cp x0)), .val (.int (own_el x0 x1)), .val (.int (own_el x0 x2)), .val (.int (own_el x0 x3)), .val (.int (own_el x0 x4)), .val (.ref o), .val (.ref q11), .val (.int q12), .val (.int q13), .val (.int q14), .val (.ref q15), .val (.int q16), .val (.ref bt), .unset, .unset] [(.ref b5)]))
  refine own_of (fun _ kk => XS.astore X5.here hx rfl (hb hby at_229) rfl rfl (l' := #[.val (.int x0), .val (.int x1), .val (.int x2), .val (.int x3), .val (.int x4), .val (.int (own_cp x0)), .val (.int (own_el x0 x1)), .val (.int (own_el x0 x2)), .val (.int (own_el x0 x3)), .val (.int (own_el x0 x4)), .val (.ref o), .val (.ref q11), .val (.int q12), .val (.int q13), .val (.int q14), .val (.ref q15), .val (.int q16), .val (.ref bt), .val (.ref b5), .unset]) rfl kk) ?_
  show own_Fin _ _ _ _ _ _ _ (T5.setTop (mkF m 231 #[.val (.int x0), .val (.int x1), .val (.int x2), .val (.int x3), .val (.int x4), .val (.int (own_cp x0)), .val (.int (own_el x0 x1)), .val (.int (own_el x0 x2)), .val (.int (own_el x0 x3)), .val (.int (own_el x0 x4)), .val (.ref o), .val (.ref q11), .val (.int q12), .val (.int q13), .val (.int q14), .val (.ref q15), .val (.int q16), .val (.ref bt), .val (.ref b5), .unset] []))
  refine own_of (fun _ kk => XS.iconst X5.here hx rfl (hb hby at_231) kk) ?_
  show own_Fin _ _ _ _ _ _ _ (T5.setTop (mkF m 232 #[.val (.int x0), .val (.int x1), .val (.int x2), .val (.int x3), .val (.int x4), .val (.int (own_cp x0)), .val (.int (own_el x0 x1)), .val (.int (own_el x0 x2)), .val (.int (own_el x0 x3)), .val (.int (own_el x0 x4)), .val (.ref o), .val (.ref q11), .val (.int q12), .val (.int q13), .val (.int q14), .val (.ref q15), .val (.int q16), .val (.ref bt), .val (.ref b5), .unset] [(.int (0 : Int32))]))
  refine own_of (fun _ kk => XS.istore X5.here hx rfl (hb hby at_232) rfl (l' := #[.val (.int x0), .val (.int x1), .val (.int x2), .val (.int x3), .val (.int x4), .val (.int (own_cp x0)), .val (.int (own_el x0 x1)), .val (.int (own_el x0 x2)), .val (.int (own_el x0 x3)), .val (.int (own_el x0 x4)), .val (.ref o), .val (.ref q11), .val (.int q12), .val (.int q13), .val (.int q14), .val (.ref q15), .val (.int q16), .val (.ref bt), .val (.ref b5), .val (.int (0 : Int32))]) rfl kk) ?_
  show own_Fin _ _ _ _ _ _ _ (T5.setTop (mkF m 234 #[.val (.int x0), .val (.int x1), .val (.int x2), .val (.int x3), .val (.int x4), .val (.int (own_cp x0)), .val (.int (own_el x0 x1)), .val (.int (own_el x0 x2)), .val (.int (own_el x0 x3)), .val (.int (own_el x0 x4)), .val (.ref o), .val (.ref q11), .val (.int q12), .val (.int q13), .val (.int q14), .val (.ref q15), .val (.int q16), .val (.ref bt), .val (.ref b5), .val (.int (0 : Int32))] []))
  refine own_of (fun _ kk => XS.aload X5.here hx rfl (hb hby at_234) rfl rfl kk) ?_
  show own_Fin _ _ _ _ _ _ _ (T5.setTop (mkF m 236 #[.val (.int x0), .val (.int x1), .val (.int x2), .val (.int x3), .val (.int x4), .val (.int (own_cp x0)), .val (.int (own_el x0 x1)), .val (.int (own_el x0 x2)), .val (.int (own_el x0 x3)), .val (.int (own_el x0 x4)), .val (.ref o), .val (.ref q11), .val (.int q12), .val (.int q13), .val (.int q14), .val (.ref q15), .val (.int q16), .val (.ref bt), .val (.ref b5), .val (.int (0 : Int32))] [(.ref b5)]))
  refine own_of (fun _ kk => XS.iload X5.here hx rfl (hb hby at_236) rfl kk) ?_
  show own_Fin _ _ _ _ _ _ _ (T5.setTop (mkF m 238 #[.val (.int x0), .val (.int x1), .val (.int x2), .val (.int x3), .val (.int x4), .val (.int (own_cp x0)), .val (.int (own_el x0 x1)), .val (.int (own_el x0 x2)), .val (.int (own_el x0 x3)), .val (.int (own_el x0 x4)), .val (.ref o), .val (.ref q11), .val (.int q12), .val (.int q13), .val (.int q14), .val (.ref q15), .val (.int q16), .val (.ref bt), .val (.ref b5), .val (.int (0 : Int32))] [(.int (0 : Int32)), (.ref b5)]))
  refine own_of (fun _ kk => XS.iinc X5.here hx rfl (hb hby at_238) rfl (l' := #[.val (.int x0), .val (.int x1), .val (.int x2), .val (.int x3), .val (.int x4), .val (.int (own_cp x0)), .val (.int (own_el x0 x1)), .val (.int (own_el x0 x2)), .val (.int (own_el x0 x3)), .val (.int (own_el x0 x4)), .val (.ref o), .val (.ref q11), .val (.int q12), .val (.int q13), .val (.int q14), .val (.ref q15), .val (.int q16), .val (.ref bt), .val (.ref b5), .val (.int (1 : Int32))]) rfl kk) ?_
  show own_Fin _ _ _ _ _ _ _ (T5.setTop (mkF m 241 #[.val (.int x0), .val (.int x1), .val (.int x2), .val (.int x3), .val (.int x4), .val (.int (own_cp x0)), .val (.int (own_el x0 x1)), .val (.int (own_el x0 x2)), .val (.int (own_el x0 x3)), .val (.int (own_el x0 x4)), .val (.ref o), .val (.ref q11), .val (.int q12), .val (.int q13), .val (.int q14), .val (.ref q15), .val (.int q16), .val (.ref bt), .val (.ref b5), .val (.int (1 : Int32))] [(.int (0 : Int32)), (.ref b5)]))
  refine own_of (fun _ kk => XS.iload X5.here hx rfl (hb hby at_241) rfl kk) ?_
  show own_Fin _ _ _ _ _ _ _ (T5.setTop (mkF m 243 #[.val (.int x0), .val (.int x1), .val (.int x2), .val (.int x3), .val (.int x4), .val (.int (own_cp x0)), .val (.int (own_el x0 x1)), .val (.int (own_el x0 x2)), .val (.int (own_el x0 x3)), .val (.int (own_el x0 x4)), .val (.ref o), .val (.ref q11), .val (.int q12), .val (.int q13), .val (.int q14), .val (.ref q15), .val (.int q16), .val (.ref bt), .val (.ref b5), .val (.int (1 : Int32))] [(.int (own_el x0 x4)), (.int (0 : Int32)), (.ref b5)]))
  refine own_iastore X5 hx hZ e5 A5 N4 ge_b5 (i := 0) (by decide) (by decide) (hb hby at_243) ?_
  intro T6 h6 l6 X6 N6 e6 W6 A6
  replace A6 : own_Arf Z h6 b5 .int 3 (fun j => if j = 0 then (.int (own_el x0 x4)) else (fun _ => (.int (0 : Int32))) j) := A6
  have ZW6 : n0 ≤ h6.size := by rw [Wr.size W6]; exact Z5
  replace AB := AB.other W6 ne_bt_b5
  show own_Fin _ _ _ _ _ _ _ (T6.setTop (mkF m 244 #[.val (.int x0), .val (.int x1), .val (.int x2), .val (.int x3), .val (.int x4), .val (.int (own_cp x0)), .val (.int (own_el x0 x1)), .val (.int (own_el x0 x2)), .val (.int (own_el x0 x3)), .val (.int (own_el x0 x4)), .val (.ref o), .val (.ref q11), .val (.int q12), .val (.int q13), .val (.int q14), .val (.ref q15), .val (.int q16), .val (.ref bt), .val (.ref b5), .val (.int (1 : Int32))] []))
  refine own_of (fun _ kk => XS.iload X6.here hx rfl (hb hby at_244) rfl kk) ?_
  show own_Fin _ _ _ _ _ _ _ (T6.setTop (mkF m 246 #[.val (.int x0), .val (.int x1), .val (.int x2), .val (.int x3), .val (.int x4), .val (.int (own_cp x0)), .val (.int (own_el x0 x1)), .val (.int (own_el x0 x2)), .val (.int (own_el x0 x3)), .val (.int (own_el x0 x4)), .val (.ref o), .val (.ref q11), .val (.int q12), .val (.int q13), .val (.int q14), .val (.ref q15), .val (.int q16), .val (.ref bt), .val (.ref b5), .val (.int (1 : Int32))] [(.int (own_el x0 x1))]))
  refine own_of (fun _ kk => XS.iload X6.here hx rfl (hb hby at_246) rfl kk) ?_
  show own_Fin _ _ _ _ _ _ _ (T6.setTop (mkF m 248 #[.val (.int x0), .val (.int x1), .val (.int x2), .val (.int x3), .val (.int x4), .val (.int (own_cp x0)), .val (.int (own_el x0 x1)), .val (.int (own_el x0 x2)), .val (.int (own_el x0 x3)), .val (.int (own_el x0 x4)), .val (.ref o), .val (.ref q11), .val (.int q12), .val (.int q13), .val (.int q14), .val (.ref q15), .val (.int q16), .val (.ref bt), .val (.ref b5), .val (.int (1 : Int32))] [(.int (own_el x0 x4)), (.int (own_el x0 x1))]))
  by_cases c248 : (own_el x0 x1) = (own_el x0 x4)
  · refine own_of (fun _ kk => XS.icmpYes X6.here hx rfl (pc0 := 248) (pc' := 261) rfl (hb hby at_248) rfl (teq c248).1 (by decide) (by decide) kk) ?_
    show own_Fin _ _ _ _ _ _ _ (T6.setTop (mkF m 261 #[.val (.int x0), .val (.int x1), .val (.int x2), .val (.int x3), .val (.int x4), .val (.int (own_cp x0)), .val (.int (own_el x0 x1)), .val (.int (own_el x0 x2)), .val (.int (own_el x0 x3)), .val (.int (own_el x0 x4)), .val (.ref o), .val (.ref q11), .val (.int q12), .val (.int q13), .val (.int q14), .val (.ref q15), .val (.int q16), .val (.ref bt), .val (.ref b5), .val (.int (1 : Int32))] []))
    refine own_of (fun _ kk => XS.iload X6.here hx rfl (hb hby at_261) rfl kk) ?_
    show own_Fin _ _ _ _ _ _ _ (T6.setTop (mkF m 263 #[.val (.int x0), .val (.int x1), .val (.int x2), .val (.int x3), .val (.int x4), .val (.int (own_cp x0)), .val (.int (own_el x0 x1)), .val (.int (own_el x0 x2)), .val (.int (own_el x0 x3)), .val (.int (own_el x0 x4)), .val (.ref o), .val (.ref q11), .val (.int q12), .val (.int q13), .val (.int q14), .val (.ref q15), .val (.int q16), .val (.ref bt), .val (.ref b5), .val (.int (1 : Int32))] [(.int (own_el x0 x2))]))
    refine own_of (fun _ kk => XS.iload X6.here hx rfl (hb hby at_263) rfl kk) ?_
    show own_Fin _ _ _ _ _ _ _ (T6.setTop (mkF m 265 #[.val (.int x0), .val (.int x1), .val (.int x2), .val (.int x3), .val (.int x4), .val (.int (own_cp x0)), .val (.int (own_el x0 x1)), .val (.int (own_el x0 x2)), .val (.int (own_el x0 x3)), .val (.int (own_el x0 x4)), .val (.ref o), .val (.ref q11), .val (.int q12), .val (.int q13), .val (.int q14), .val (.ref q15), .val (.int q16), .val (.ref bt), .val (.ref b5), .val (.int (1 : Int32))] [(.int (own_el x0 x4)), (.int (own_el x0 x2))]))
    by_cases c265 : (own_el x0 x2) = (own_el x0 x4)
    · refine own_of (fun _ kk => XS.icmpYes X6.here hx rfl (pc0 := 265) (pc' := 285) rfl (hb hby at_265) rfl (teq c265).1 (by decide) (by decide) kk) ?_
      show own_Fin _ _ _ _ _ _ _ (T6.setTop (mkF m 285 #[.val (.int x0), .val (.int x1), .val (.int x2), .val (.int x3), .val (.int x4), .val (.int (own_cp x0)), .val (.int (own_el x0 x1)), .val (.int (own_el x0 x2)), .val (.int (own_el x0 x3)), .val (.int (own_el x0 x4)), .val (.ref o), .val (.ref q11), .val (.int q12), .val (.int q13), .val (.int q14), .val (.ref q15), .val (.int q16), .val (.ref bt), .val (.ref b5), .val (.int (1 : Int32))] []))
      refine own_of (fun _ kk => XS.aload X6.here hx rfl (hb hby at_285) rfl rfl kk) ?_
      show own_Fin _ _ _ _ _ _ _ (T6.setTop (mkF m 287 #[.val (.int x0), .val (.int x1), .val (.int x2), .val (.int x3), .val (.int x4), .val (.int (own_cp x0)), .val (.int (own_el x0 x1)), .val (.int (own_el x0 x2)), .val (.int (own_el x0 x3)), .val (.int (own_el x0 x4)), .val (.ref o), .val (.ref q11), .val (.int q12), .val (.int q13), .val (.int q14), .val (.ref q15), .val (.int q16), .val (.ref bt), .val (.ref b5), .val (.int (1 : Int32))] [(.ref bt)]))
      refine own_of (fun _ kk => XS.aload X6.here hx rfl (hb hby at_287) rfl rfl kk) ?_
      show own_Fin _ _ _ _ _ _ _ (T6.setTop (mkF m 289 #[.val (.int x0), .val (.int x1), .val (.int x2), .val (.int x3), .val (.int x4), .val (.int (own_cp x0)), .val (.int (own_el x0 x1)), .val (.int (own_el x0 x2)), .val (.int (own_el x0 x3)), .val (.int (own_el x0 x4)), .val (.ref o), .val (.ref q11), .val (.int q12), .val (.int q13), .val (.int q14), .val (.ref q15), .val (.int q16), .val (.ref bt), .val (.ref b5), .val (.int (1 : Int32))] [(.ref b5), (.ref bt)]))
      refine own_of (fun _ kk => XS.iload X6.here hx rfl (hb hby at_289) rfl kk) ?_
      show own_Fin _ _ _ _ _ _ _ (T6.setTop (mkF m 291 #[.val (.int x0), .val (.int x1), .val (.int x2), .val (.int x3), .val (.int x4), .val (.int (own_cp x0)), .val (.int (own_el x0 x1)), .val (.int (own_el x0 x2)), .val (.int (own_el x0 x3)), .val (.int (own_el x0 x4)), .val (.ref o), .val (.ref q11), .val (.int q12), .val (.int q13), .val (.int q14), .val (.ref q15), .val (.int q16), .val (.ref bt), .val (.ref b5), .val (.int (1 : Int32))] [(.int (1 : Int32)), (.ref b5), (.ref bt)]))
      have qc248 : own_eN x0 x1 = own_eN x0 x4 := (own_elN x0 x1 x4).mp c248
      have qc265 : own_eN x0 x2 = own_eN x0 x4 := (own_elN x0 x2 x4).mp c265
      have hk : nn3 = 1 := by omega
      have fg : ∀ j, j < 1 → R j = (fun j => (if j = 0 then (own_el x0 x4) else (0 : Int32))) j := fun j hj => by
        rcases (show j = 0 by omega) with rfl
        · exact Int32.toInt_inj.mp (show (R 0).toInt = (own_el x0 x4).toInt from by rw [hR 0 (by omega)]; have := (I3.1 0 (by omega)).1; have := (own_eN1 x0 x4).1; omega)
      rw [hk] at AB
      refine own_callS X6 hx hZ hown (hw _ (List.mem_of_getElem? (i := 68) rfl)) (hw _ (List.mem_of_getElem? (i := 69) rfl)) (hw _ (List.mem_of_getElem? (i := 70) rfl)) (hw _ (List.mem_of_getElem? (i := 71) rfl)) (by decide) e6 (argsL := [(.ref bt), (.ref b5), (.int (1 : Int32))]) (met15_1 l Z a0 hw bt b5 (1 : Int32) R (fun j => (if j = 0 then (own_el x0 x4) else (0 : Int32))) h6 n0 ZW6 rfl AB (A6.congr fun j _ => by first | rfl | (dsimp only; (repeat' split) <;> first | rfl | (exfalso; omega))) fg) (W := 0) (by decide) (by decide) (by decide) (by decide) (by rw [hml]; rfl) pd_12 rfl (rest := []) rfl (Nat.le_of_eq rfl) (hb hby at_291) ?_
      intro v7 T7 h7 L7 X7 e7 q7
      obtain ⟨rfl, qh7, rfl⟩ := q7
      rw [qh7] at e7
      have N7 := Fr.app N6 (Fr.nil n0)
      show own_Fin _ _ _ _ _ _ _ (T7.setTop (mkF m 294 #[.val (.int x0), .val (.int x1), .val (.int x2), .val (.int x3), .val (.int x4), .val (.int (own_cp x0)), .val (.int (own_el x0 x1)), .val (.int (own_el x0 x2)), .val (.int (own_el x0 x3)), .val (.int (own_el x0 x4)), .val (.ref o), .val (.ref q11), .val (.int q12), .val (.int q13), .val (.int q14), .val (.ref q15), .val (.int q16), .val (.ref bt), .val (.ref b5), .val (.int (1 : Int32))] [(.int (1 : Int32))]))
      exact own_retN X7 hx hlk e7 (t := .boolean) hret (by simp) (hb hby at_294) (by decide) (by decide) (z' := (1 : Int32)) (by decide) ⟨rfl, N7⟩
    · refine own_of (fun _ kk => XS.icmpNo X6.here hx rfl (hb hby at_265) rfl (feq c265).1 kk) ?_
      show own_Fin _ _ _ _ _ _ _ (T6.setTop (mkF m 268 #[.val (.int x0), .val (.int x1), .val (.int x2), .val (.int x3), .val (.int x4), .val (.int (own_cp x0)), .val (.int (own_el x0 x1)), .val (.int (own_el x0 x2)), .val (.int (own_el x0 x3)), .val (.int (own_el x0 x4)), .val (.ref o), .val (.ref q11), .val (.int q12), .val (.int q13), .val (.int q14), .val (.ref q15), .val (.int q16), .val (.ref bt), .val (.ref b5), .val (.int (1 : Int32))] []))
      refine own_of (fun _ kk => XS.iload X6.here hx rfl (hb hby at_268) rfl kk) ?_
      show own_Fin _ _ _ _ _ _ _ (T6.setTop (mkF m 270 #[.val (.int x0), .val (.int x1), .val (.int x2), .val (.int x3), .val (.int x4), .val (.int (own_cp x0)), .val (.int (own_el x0 x1)), .val (.int (own_el x0 x2)), .val (.int (own_el x0 x3)), .val (.int (own_el x0 x4)), .val (.ref o), .val (.ref q11), .val (.int q12), .val (.int q13), .val (.int q14), .val (.ref q15), .val (.int q16), .val (.ref bt), .val (.ref b5), .val (.int (1 : Int32))] [(.int (own_el x0 x2))]))
      refine own_of (fun _ kk => XS.iload X6.here hx rfl (hb hby at_270) rfl kk) ?_
      show own_Fin _ _ _ _ _ _ _ (T6.setTop (mkF m 272 #[.val (.int x0), .val (.int x1), .val (.int x2), .val (.int x3), .val (.int x4), .val (.int (own_cp x0)), .val (.int (own_el x0 x1)), .val (.int (own_el x0 x2)), .val (.int (own_el x0 x3)), .val (.int (own_el x0 x4)), .val (.ref o), .val (.ref q11), .val (.int q12), .val (.int q13), .val (.int q14), .val (.ref q15), .val (.int q16), .val (.ref bt), .val (.ref b5), .val (.int (1 : Int32))] [(.int (own_el x0 x1)), (.int (own_el x0 x2))]))
      by_cases c272 : (own_el x0 x2) = (own_el x0 x1)
      · refine own_of (fun _ kk => XS.icmpYes X6.here hx rfl (pc0 := 272) (pc' := 285) rfl (hb hby at_272) rfl (teq c272).1 (by decide) (by decide) kk) ?_
        show own_Fin _ _ _ _ _ _ _ (T6.setTop (mkF m 285 #[.val (.int x0), .val (.int x1), .val (.int x2), .val (.int x3), .val (.int x4), .val (.int (own_cp x0)), .val (.int (own_el x0 x1)), .val (.int (own_el x0 x2)), .val (.int (own_el x0 x3)), .val (.int (own_el x0 x4)), .val (.ref o), .val (.ref q11), .val (.int q12), .val (.int q13), .val (.int q14), .val (.ref q15), .val (.int q16), .val (.ref bt), .val (.ref b5), .val (.int (1 : Int32))] []))
        refine own_of (fun _ kk => XS.aload X6.here hx rfl (hb hby at_285) rfl rfl kk) ?_
        show own_Fin _ _ _ _ _ _ _ (T6.setTop (mkF m 287 #[.val (.int x0), .val (.int x1), .val (.int x2), .val (.int x3), .val (.int x4), .val (.int (own_cp x0)), .val (.int (own_el x0 x1)), .val (.int (own_el x0 x2)), .val (.int (own_el x0 x3)), .val (.int (own_el x0 x4)), .val (.ref o), .val (.ref q11), .val (.int q12), .val (.int q13), .val (.int q14), .val (.ref q15), .val (.int q16), .val (.ref bt), .val (.ref b5), .val (.int (1 : Int32))] [(.ref bt)]))
        refine own_of (fun _ kk => XS.aload X6.here hx rfl (hb hby at_287) rfl rfl kk) ?_
        show own_Fin _ _ _ _ _ _ _ (T6.setTop (mkF m 289 #[.val (.int x0), .val (.int x1), .val (.int x2), .val (.int x3), .val (.int x4), .val (.int (own_cp x0)), .val (.int (own_el x0 x1)), .val (.int (own_el x0 x2)), .val (.int (own_el x0 x3)), .val (.int (own_el x0 x4)), .val (.ref o), .val (.ref q11), .val (.int q12), .val (.int q13), .val (.int q14), .val (.ref q15), .val (.int q16), .val (.ref bt), .val (.ref b5), .val (.int (1 : Int32))] [(.ref b5), (.ref bt)]))
        refine own_of (fun _ kk => XS.iload X6.here hx rfl (hb hby at_289) rfl kk) ?_
        show own_Fin _ _ _ _ _ _ _ (T6.setTop (mkF m 291 #[.val (.int x0), .val (.int x1), .val (.int x2), .val (.int x3), .val (.int x4), .val (.int (own_cp x0)), .val (.int (own_el x0 x1)), .val (.int (own_el x0 x2)), .val (.int (own_el x0 x3)), .val (.int (own_el x0 x4)), .val (.ref o), .val (.ref q11), .val (.int q12), .val (.int q13), .val (.int q14), .val (.ref q15), .val (.int q16), .val (.ref bt), .val (.ref b5), .val (.int (1 : Int32))] [(.int (1 : Int32)), (.ref b5), (.ref bt)]))
        have qc248 : own_eN x0 x1 = own_eN x0 x4 := (own_elN x0 x1 x4).mp c248
        have qc265 : ¬ own_eN x0 x2 = own_eN x0 x4 := fun z => c265 ((own_elN x0 x2 x4).mpr z)
        have qc272 : own_eN x0 x2 = own_eN x0 x1 := (own_elN x0 x2 x1).mp c272
        have hk : nn3 = 1 := by omega
        have fg : ∀ j, j < 1 → R j = (fun j => (if j = 0 then (own_el x0 x4) else (0 : Int32))) j := fun j hj => by
          rcases (show j = 0 by omega) with rfl
          · exact Int32.toInt_inj.mp (show (R 0).toInt = (own_el x0 x4).toInt from by rw [hR 0 (by omega)]; have := (I3.1 0 (by omega)).1; have := (own_eN1 x0 x4).1; omega)
        rw [hk] at AB
        refine own_callS X6 hx hZ hown (hw _ (List.mem_of_getElem? (i := 68) rfl)) (hw _ (List.mem_of_getElem? (i := 69) rfl)) (hw _ (List.mem_of_getElem? (i := 70) rfl)) (hw _ (List.mem_of_getElem? (i := 71) rfl)) (by decide) e6 (argsL := [(.ref bt), (.ref b5), (.int (1 : Int32))]) (met15_1 l Z a0 hw bt b5 (1 : Int32) R (fun j => (if j = 0 then (own_el x0 x4) else (0 : Int32))) h6 n0 ZW6 rfl AB (A6.congr fun j _ => by first | rfl | (dsimp only; (repeat' split) <;> first | rfl | (exfalso; omega))) fg) (W := 0) (by decide) (by decide) (by decide) (by decide) (by rw [hml]; rfl) pd_12 rfl (rest := []) rfl (Nat.le_of_eq rfl) (hb hby at_291) ?_
        intro v8 T8 h8 L8 X8 e8 q8
        obtain ⟨rfl, qh8, rfl⟩ := q8
        rw [qh8] at e8
        have N8 := Fr.app N6 (Fr.nil n0)
        show own_Fin _ _ _ _ _ _ _ (T8.setTop (mkF m 294 #[.val (.int x0), .val (.int x1), .val (.int x2), .val (.int x3), .val (.int x4), .val (.int (own_cp x0)), .val (.int (own_el x0 x1)), .val (.int (own_el x0 x2)), .val (.int (own_el x0 x3)), .val (.int (own_el x0 x4)), .val (.ref o), .val (.ref q11), .val (.int q12), .val (.int q13), .val (.int q14), .val (.ref q15), .val (.int q16), .val (.ref bt), .val (.ref b5), .val (.int (1 : Int32))] [(.int (1 : Int32))]))
        exact own_retN X8 hx hlk e8 (t := .boolean) hret (by simp) (hb hby at_294) (by decide) (by decide) (z' := (1 : Int32)) (by decide) ⟨rfl, N8⟩
      · refine own_of (fun _ kk => XS.icmpNo X6.here hx rfl (hb hby at_272) rfl (feq c272).1 kk) ?_
        show own_Fin _ _ _ _ _ _ _ (T6.setTop (mkF m 275 #[.val (.int x0), .val (.int x1), .val (.int x2), .val (.int x3), .val (.int x4), .val (.int (own_cp x0)), .val (.int (own_el x0 x1)), .val (.int (own_el x0 x2)), .val (.int (own_el x0 x3)), .val (.int (own_el x0 x4)), .val (.ref o), .val (.ref q11), .val (.int q12), .val (.int q13), .val (.int q14), .val (.ref q15), .val (.int q16), .val (.ref bt), .val (.ref b5), .val (.int (1 : Int32))] []))
        refine own_of (fun _ kk => XS.aload X6.here hx rfl (hb hby at_275) rfl rfl kk) ?_
        show own_Fin _ _ _ _ _ _ _ (T6.setTop (mkF m 277 #[.val (.int x0), .val (.int x1), .val (.int x2), .val (.int x3), .val (.int x4), .val (.int (own_cp x0)), .val (.int (own_el x0 x1)), .val (.int (own_el x0 x2)), .val (.int (own_el x0 x3)), .val (.int (own_el x0 x4)), .val (.ref o), .val (.ref q11), .val (.int q12), .val (.int q13), .val (.int q14), .val (.ref q15), .val (.int q16), .val (.ref bt), .val (.ref b5), .val (.int (1 : Int32))] [(.ref b5)]))
        refine own_of (fun _ kk => XS.iload X6.here hx rfl (hb hby at_277) rfl kk) ?_
        show own_Fin _ _ _ _ _ _ _ (T6.setTop (mkF m 279 #[.val (.int x0), .val (.int x1), .val (.int x2), .val (.int x3), .val (.int x4), .val (.int (own_cp x0)), .val (.int (own_el x0 x1)), .val (.int (own_el x0 x2)), .val (.int (own_el x0 x3)), .val (.int (own_el x0 x4)), .val (.ref o), .val (.ref q11), .val (.int q12), .val (.int q13), .val (.int q14), .val (.ref q15), .val (.int q16), .val (.ref bt), .val (.ref b5), .val (.int (1 : Int32))] [(.int (1 : Int32)), (.ref b5)]))
        refine own_of (fun _ kk => XS.iinc X6.here hx rfl (hb hby at_279) rfl (l' := #[.val (.int x0), .val (.int x1), .val (.int x2), .val (.int x3), .val (.int x4), .val (.int (own_cp x0)), .val (.int (own_el x0 x1)), .val (.int (own_el x0 x2)), .val (.int (own_el x0 x3)), .val (.int (own_el x0 x4)), .val (.ref o), .val (.ref q11), .val (.int q12), .val (.int q13), .val (.int q14), .val (.ref q15), .val (.int q16), .val (.ref bt), .val (.ref b5), .val (.int (2 : Int32))]) rfl kk) ?_
        show own_Fin _ _ _ _ _ _ _ (T6.setTop (mkF m 282 #[.val (.int x0), .val (.int x1), .val (.int x2), .val (.int x3), .val (.int x4), .val (.int (own_cp x0)), .val (.int (own_el x0 x1)), .val (.int (own_el x0 x2)), .val (.int (own_el x0 x3)), .val (.int (own_el x0 x4)), .val (.ref o), .val (.ref q11), .val (.int q12), .val (.int q13), .val (.int q14), .val (.ref q15), .val (.int q16), .val (.ref bt), .val (.ref b5), .val (.int (2 : Int32))] [(.int (1 : Int32)), (.ref b5)]))
        refine own_of (fun _ kk => XS.iload X6.here hx rfl (hb hby at_282) rfl kk) ?_
        show own_Fin _ _ _ _ _ _ _ (T6.setTop (mkF m 284 #[.val (.int x0), .val (.int x1), .val (.int x2), .val (.int x3), .val (.int x4), .val (.int (own_cp x0)), .val (.int (own_el x0 x1)), .val (.int (own_el x0 x2)), .val (.int (own_el x0 x3)), .val (.int (own_el x0 x4)), .val (.ref o), .val (.ref q11), .val (.int q12), .val (.int q13), .val (.int q14), .val (.ref q15), .val (.int q16), .val (.ref bt), .val (.ref b5), .val (.int (2 : Int32))] [(.int (own_el x0 x2)), (.int (1 : Int32)), (.ref b5)]))
        refine own_iastore X6 hx hZ e6 A6 N6 ge_b5 (i := 1) (by decide) (by decide) (hb hby at_284) ?_
        intro T9 h9 l9 X9 N9 e9 W9 A9
        replace A9 : own_Arf Z h9 b5 .int 3 (fun j => if j = 1 then (.int (own_el x0 x2)) else (fun j => if j = 0 then (.int (own_el x0 x4)) else (fun _ => (.int (0 : Int32))) j) j) := A9
        have ZW9 : n0 ≤ h9.size := by rw [Wr.size W9]; exact ZW6
        replace AB := AB.other W9 ne_bt_b5
        show own_Fin _ _ _ _ _ _ _ (T9.setTop (mkF m 285 #[.val (.int x0), .val (.int x1), .val (.int x2), .val (.int x3), .val (.int x4), .val (.int (own_cp x0)), .val (.int (own_el x0 x1)), .val (.int (own_el x0 x2)), .val (.int (own_el x0 x3)), .val (.int (own_el x0 x4)), .val (.ref o), .val (.ref q11), .val (.int q12), .val (.int q13), .val (.int q14), .val (.ref q15), .val (.int q16), .val (.ref bt), .val (.ref b5), .val (.int (2 : Int32))] []))
        refine own_of (fun _ kk => XS.aload X9.here hx rfl (hb hby at_285) rfl rfl kk) ?_
        show own_Fin _ _ _ _ _ _ _ (T9.setTop (mkF m 287 #[.val (.int x0), .val (.int x1), .val (.int x2), .val (.int x3), .val (.int x4), .val (.int (own_cp x0)), .val (.int (own_el x0 x1)), .val (.int (own_el x0 x2)), .val (.int (own_el x0 x3)), .val (.int (own_el x0 x4)), .val (.ref o), .val (.ref q11), .val (.int q12), .val (.int q13), .val (.int q14), .val (.ref q15), .val (.int q16), .val (.ref bt), .val (.ref b5), .val (.int (2 : Int32))] [(.ref bt)]))
        refine own_of (fun _ kk => XS.aload X9.here hx rfl (hb hby at_287) rfl rfl kk) ?_
        show own_Fin _ _ _ _ _ _ _ (T9.setTop (mkF m 289 #[.val (.int x0), .val (.int x1), .val (.int x2), .val (.int x3), .val (.int x4), .val (.int (own_cp x0)), .val (.int (own_el x0 x1)), .val (.int (own_el x0 x2)), .val (.int (own_el x0 x3)), .val (.int (own_el x0 x4)), .val (.ref o), .val (.ref q11), .val (.int q12), .val (.int q13), .val (.int q14), .val (.ref q15), .val (.int q16), .val (.ref bt), .val (.ref b5), .val (.int (2 : Int32))] [(.ref b5), (.ref bt)]))
        refine own_of (fun _ kk => XS.iload X9.here hx rfl (hb hby at_289) rfl kk) ?_
        show own_Fin _ _ _ _ _ _ _ (T9.setTop (mkF m 291 #[.val (.int x0), .val (.int x1), .val (.int x2), .val (.int x3), .val (.int x4), .val (.int (own_cp x0)), .val (.int (own_el x0 x1)), .val (.int (own_el x0 x2)), .val (.int (own_el x0 x3)), .val (.int (own_el x0 x4)), .val (.ref o), .val (.ref q11), .val (.int q12), .val (.int q13), .val (.int q14), .val (.ref q15), .val (.int q16), .val (.ref bt), .val (.ref b5), .val (.int (2 : Int32))] [(.int (2 : Int32)), (.ref b5), (.ref bt)]))
        have qc248 : own_eN x0 x1 = own_eN x0 x4 := (own_elN x0 x1 x4).mp c248
        have qc265 : ¬ own_eN x0 x2 = own_eN x0 x4 := fun z => c265 ((own_elN x0 x2 x4).mpr z)
        have qc272 : ¬ own_eN x0 x2 = own_eN x0 x1 := fun z => c272 ((own_elN x0 x2 x1).mpr z)
        have hk : nn3 = 2 := by omega
        have fg : ∀ j, j < 2 → R j = (fun j => (if j = 1 then (own_el x0 x2) else (if j = 0 then (own_el x0 x4) else (0 : Int32)))) j := fun j hj => by
          rcases (show j = 0 ∨ j = 1 by omega) with rfl | rfl
          · exact Int32.toInt_inj.mp (show (R 0).toInt = (own_el x0 x4).toInt from by rw [hR 0 (by omega)]; have := (I3.1 0 (by omega)).1; have := (own_eN1 x0 x4).1; omega)
          · exact Int32.toInt_inj.mp (show (R 1).toInt = (own_el x0 x2).toInt from by rw [hR 1 (by omega)]; have := (I3.1 1 (by omega)).1; have := (own_eN1 x0 x2).1; omega)
        rw [hk] at AB
        refine own_callS X9 hx hZ hown (hw _ (List.mem_of_getElem? (i := 68) rfl)) (hw _ (List.mem_of_getElem? (i := 69) rfl)) (hw _ (List.mem_of_getElem? (i := 70) rfl)) (hw _ (List.mem_of_getElem? (i := 71) rfl)) (by decide) e9 (argsL := [(.ref bt), (.ref b5), (.int (2 : Int32))]) (met15_2 l Z a0 hw bt b5 (2 : Int32) R (fun j => (if j = 1 then (own_el x0 x2) else (if j = 0 then (own_el x0 x4) else (0 : Int32)))) h9 n0 ZW9 rfl AB (A9.congr fun j _ => by first | rfl | (dsimp only; (repeat' split) <;> first | rfl | (exfalso; omega))) fg) (W := 0) (by decide) (by decide) (by decide) (by decide) (by rw [hml]; rfl) pd_12 rfl (rest := []) rfl (Nat.le_of_eq rfl) (hb hby at_291) ?_
        intro v10 T10 h10 L10 X10 e10 q10
        obtain ⟨rfl, qh10, rfl⟩ := q10
        rw [qh10] at e10
        have N10 := Fr.app N9 (Fr.nil n0)
        show own_Fin _ _ _ _ _ _ _ (T10.setTop (mkF m 294 #[.val (.int x0), .val (.int x1), .val (.int x2), .val (.int x3), .val (.int x4), .val (.int (own_cp x0)), .val (.int (own_el x0 x1)), .val (.int (own_el x0 x2)), .val (.int (own_el x0 x3)), .val (.int (own_el x0 x4)), .val (.ref o), .val (.ref q11), .val (.int q12), .val (.int q13), .val (.int q14), .val (.ref q15), .val (.int q16), .val (.ref bt), .val (.ref b5), .val (.int (2 : Int32))] [(.int (1 : Int32))]))
        exact own_retN X10 hx hlk e10 (t := .boolean) hret (by simp) (hb hby at_294) (by decide) (by decide) (z' := (1 : Int32)) (by decide) ⟨rfl, N10⟩
  · refine own_of (fun _ kk => XS.icmpNo X6.here hx rfl (hb hby at_248) rfl (feq c248).1 kk) ?_
    show own_Fin _ _ _ _ _ _ _ (T6.setTop (mkF m 251 #[.val (.int x0), .val (.int x1), .val (.int x2), .val (.int x3), .val (.int x4), .val (.int (own_cp x0)), .val (.int (own_el x0 x1)), .val (.int (own_el x0 x2)), .val (.int (own_el x0 x3)), .val (.int (own_el x0 x4)), .val (.ref o), .val (.ref q11), .val (.int q12), .val (.int q13), .val (.int q14), .val (.ref q15), .val (.int q16), .val (.ref bt), .val (.ref b5), .val (.int (1 : Int32))] []))
    refine own_of (fun _ kk => XS.aload X6.here hx rfl (hb hby at_251) rfl rfl kk) ?_
    show own_Fin _ _ _ _ _ _ _ (T6.setTop (mkF m 253 #[.val (.int x0), .val (.int x1), .val (.int x2), .val (.int x3), .val (.int x4), .val (.int (own_cp x0)), .val (.int (own_el x0 x1)), .val (.int (own_el x0 x2)), .val (.int (own_el x0 x3)), .val (.int (own_el x0 x4)), .val (.ref o), .val (.ref q11), .val (.int q12), .val (.int q13), .val (.int q14), .val (.ref q15), .val (.int q16), .val (.ref bt), .val (.ref b5), .val (.int (1 : Int32))] [(.ref b5)]))
    refine own_of (fun _ kk => XS.iload X6.here hx rfl (hb hby at_253) rfl kk) ?_
    show own_Fin _ _ _ _ _ _ _ (T6.setTop (mkF m 255 #[.val (.int x0), .val (.int x1), .val (.int x2), .val (.int x3), .val (.int x4), .val (.int (own_cp x0)), .val (.int (own_el x0 x1)), .val (.int (own_el x0 x2)), .val (.int (own_el x0 x3)), .val (.int (own_el x0 x4)), .val (.ref o), .val (.ref q11), .val (.int q12), .val (.int q13), .val (.int q14), .val (.ref q15), .val (.int q16), .val (.ref bt), .val (.ref b5), .val (.int (1 : Int32))] [(.int (1 : Int32)), (.ref b5)]))
    refine own_of (fun _ kk => XS.iinc X6.here hx rfl (hb hby at_255) rfl (l' := #[.val (.int x0), .val (.int x1), .val (.int x2), .val (.int x3), .val (.int x4), .val (.int (own_cp x0)), .val (.int (own_el x0 x1)), .val (.int (own_el x0 x2)), .val (.int (own_el x0 x3)), .val (.int (own_el x0 x4)), .val (.ref o), .val (.ref q11), .val (.int q12), .val (.int q13), .val (.int q14), .val (.ref q15), .val (.int q16), .val (.ref bt), .val (.ref b5), .val (.int (2 : Int32))]) rfl kk) ?_
    show own_Fin _ _ _ _ _ _ _ (T6.setTop (mkF m 258 #[.val (.int x0), .val (.int x1), .val (.int x2), .val (.int x3), .val (.int x4), .val (.int (own_cp x0)), .val (.int (own_el x0 x1)), .val (.int (own_el x0 x2)), .val (.int (own_el x0 x3)), .val (.int (own_el x0 x4)), .val (.ref o), .val (.ref q11), .val (.int q12), .val (.int q13), .val (.int q14), .val (.ref q15), .val (.int q16), .val (.ref bt), .val (.ref b5), .val (.int (2 : Int32))] [(.int (1 : Int32)), (.ref b5)]))
    refine own_of (fun _ kk => XS.iload X6.here hx rfl (hb hby at_258) rfl kk) ?_
    show own_Fin _ _ _ _ _ _ _ (T6.setTop (mkF m 260 #[.val (.int x0), .val (.int x1), .val (.int x2), .val (.int x3), .val (.int x4), .val (.int (own_cp x0)), .val (.int (own_el x0 x1)), .val (.int (own_el x0 x2)), .val (.int (own_el x0 x3)), .val (.int (own_el x0 x4)), .val (.ref o), .val (.ref q11), .val (.int q12), .val (.int q13), .val (.int q14), .val (.ref q15), .val (.int q16), .val (.ref bt), .val (.ref b5), .val (.int (2 : Int32))] [(.int (own_el x0 x1)), (.int (1 : Int32)), (.ref b5)]))
    refine own_iastore X6 hx hZ e6 A6 N6 ge_b5 (i := 1) (by decide) (by decide) (hb hby at_260) ?_
    intro T11 h11 l11 X11 N11 e11 W11 A11
    replace A11 : own_Arf Z h11 b5 .int 3 (fun j => if j = 1 then (.int (own_el x0 x1)) else (fun j => if j = 0 then (.int (own_el x0 x4)) else (fun _ => (.int (0 : Int32))) j) j) := A11
    have ZW11 : n0 ≤ h11.size := by rw [Wr.size W11]; exact ZW6
    replace AB := AB.other W11 ne_bt_b5
    show own_Fin _ _ _ _ _ _ _ (T11.setTop (mkF m 261 #[.val (.int x0), .val (.int x1), .val (.int x2), .val (.int x3), .val (.int x4), .val (.int (own_cp x0)), .val (.int (own_el x0 x1)), .val (.int (own_el x0 x2)), .val (.int (own_el x0 x3)), .val (.int (own_el x0 x4)), .val (.ref o), .val (.ref q11), .val (.int q12), .val (.int q13), .val (.int q14), .val (.ref q15), .val (.int q16), .val (.ref bt), .val (.ref b5), .val (.int (2 : Int32))] []))
    refine own_of (fun _ kk => XS.iload X11.here hx rfl (hb hby at_261) rfl kk) ?_
    show own_Fin _ _ _ _ _ _ _ (T11.setTop (mkF m 263 #[.val (.int x0), .val (.int x1), .val (.int x2), .val (.int x3), .val (.int x4), .val (.int (own_cp x0)), .val (.int (own_el x0 x1)), .val (.int (own_el x0 x2)), .val (.int (own_el x0 x3)), .val (.int (own_el x0 x4)), .val (.ref o), .val (.ref q11), .val (.int q12), .val (.int q13), .val (.int q14), .val (.ref q15), .val (.int q16), .val (.ref bt), .val (.ref b5), .val (.int (2 : Int32))] [(.int (own_el x0 x2))]))
    refine own_of (fun _ kk => XS.iload X11.here hx rfl (hb hby at_263) rfl kk) ?_
    show own_Fin _ _ _ _ _ _ _ (T11.setTop (mkF m 265 #[.val (.int x0), .val (.int x1), .val (.int x2), .val (.int x3), .val (.int x4), .val (.int (own_cp x0)), .val (.int (own_el x0 x1)), .val (.int (own_el x0 x2)), .val (.int (own_el x0 x3)), .val (.int (own_el x0 x4)), .val (.ref o), .val (.ref q11), .val (.int q12), .val (.int q13), .val (.int q14), .val (.ref q15), .val (.int q16), .val (.ref bt), .val (.ref b5), .val (.int (2 : Int32))] [(.int (own_el x0 x4)), (.int (own_el x0 x2))]))
    by_cases c265 : (own_el x0 x2) = (own_el x0 x4)
    · refine own_of (fun _ kk => XS.icmpYes X11.here hx rfl (pc0 := 265) (pc' := 285) rfl (hb hby at_265) rfl (teq c265).1 (by decide) (by decide) kk) ?_
      show own_Fin _ _ _ _ _ _ _ (T11.setTop (mkF m 285 #[.val (.int x0), .val (.int x1), .val (.int x2), .val (.int x3), .val (.int x4), .val (.int (own_cp x0)), .val (.int (own_el x0 x1)), .val (.int (own_el x0 x2)), .val (.int (own_el x0 x3)), .val (.int (own_el x0 x4)), .val (.ref o), .val (.ref q11), .val (.int q12), .val (.int q13), .val (.int q14), .val (.ref q15), .val (.int q16), .val (.ref bt), .val (.ref b5), .val (.int (2 : Int32))] []))
      refine own_of (fun _ kk => XS.aload X11.here hx rfl (hb hby at_285) rfl rfl kk) ?_
      show own_Fin _ _ _ _ _ _ _ (T11.setTop (mkF m 287 #[.val (.int x0), .val (.int x1), .val (.int x2), .val (.int x3), .val (.int x4), .val (.int (own_cp x0)), .val (.int (own_el x0 x1)), .val (.int (own_el x0 x2)), .val (.int (own_el x0 x3)), .val (.int (own_el x0 x4)), .val (.ref o), .val (.ref q11), .val (.int q12), .val (.int q13), .val (.int q14), .val (.ref q15), .val (.int q16), .val (.ref bt), .val (.ref b5), .val (.int (2 : Int32))] [(.ref bt)]))
      refine own_of (fun _ kk => XS.aload X11.here hx rfl (hb hby at_287) rfl rfl kk) ?_
      show own_Fin _ _ _ _ _ _ _ (T11.setTop (mkF m 289 #[.val (.int x0), .val (.int x1), .val (.int x2), .val (.int x3), .val (.int x4), .val (.int (own_cp x0)), .val (.int (own_el x0 x1)), .val (.int (own_el x0 x2)), .val (.int (own_el x0 x3)), .val (.int (own_el x0 x4)), .val (.ref o), .val (.ref q11), .val (.int q12), .val (.int q13), .val (.int q14), .val (.ref q15), .val (.int q16), .val (.ref bt), .val (.ref b5), .val (.int (2 : Int32))] [(.ref b5), (.ref bt)]))
      refine own_of (fun _ kk => XS.iload X11.here hx rfl (hb hby at_289) rfl kk) ?_
      show own_Fin _ _ _ _ _ _ _ (T11.setTop (mkF m 291 #[.val (.int x0), .val (.int x1), .val (.int x2), .val (.int x3), .val (.int x4), .val (.int (own_cp x0)), .val (.int (own_el x0 x1)), .val (.int (own_el x0 x2)), .val (.int (own_el x0 x3)), .val (.int (own_el x0 x4)), .val (.ref o), .val (.ref q11), .val (.int q12), .val (.int q13), .val (.int q14), .val (.ref q15), .val (.int q16), .val (.ref bt), .val (.ref b5), .val (.int (2 : Int32))] [(.int (2 : Int32)), (.ref b5), (.ref bt)]))
      have qc248 : ¬ own_eN x0 x1 = own_eN x0 x4 := fun z => c248 ((own_elN x0 x1 x4).mpr z)
      have qc265 : own_eN x0 x2 = own_eN x0 x4 := (own_elN x0 x2 x4).mp c265
      have hk : nn3 = 2 := by omega
      have fg : ∀ j, j < 2 → R j = (fun j => (if j = 1 then (own_el x0 x1) else (if j = 0 then (own_el x0 x4) else (0 : Int32)))) j := fun j hj => by
        rcases (show j = 0 ∨ j = 1 by omega) with rfl | rfl
        · exact Int32.toInt_inj.mp (show (R 0).toInt = (own_el x0 x4).toInt from by rw [hR 0 (by omega)]; have := (I3.1 0 (by omega)).1; have := (own_eN1 x0 x4).1; omega)
        · exact Int32.toInt_inj.mp (show (R 1).toInt = (own_el x0 x1).toInt from by rw [hR 1 (by omega)]; have := (I3.1 1 (by omega)).1; have := (own_eN1 x0 x1).1; omega)
      rw [hk] at AB
      refine own_callS X11 hx hZ hown (hw _ (List.mem_of_getElem? (i := 68) rfl)) (hw _ (List.mem_of_getElem? (i := 69) rfl)) (hw _ (List.mem_of_getElem? (i := 70) rfl)) (hw _ (List.mem_of_getElem? (i := 71) rfl)) (by decide) e11 (argsL := [(.ref bt), (.ref b5), (.int (2 : Int32))]) (met15_2 l Z a0 hw bt b5 (2 : Int32) R (fun j => (if j = 1 then (own_el x0 x1) else (if j = 0 then (own_el x0 x4) else (0 : Int32)))) h11 n0 ZW11 rfl AB (A11.congr fun j _ => by first | rfl | (dsimp only; (repeat' split) <;> first | rfl | (exfalso; omega))) fg) (W := 0) (by decide) (by decide) (by decide) (by decide) (by rw [hml]; rfl) pd_12 rfl (rest := []) rfl (Nat.le_of_eq rfl) (hb hby at_291) ?_
      intro v12 T12 h12 L12 X12 e12 q12
      obtain ⟨rfl, qh12, rfl⟩ := q12
      rw [qh12] at e12
      have N12 := Fr.app N11 (Fr.nil n0)
      show own_Fin _ _ _ _ _ _ _ (T12.setTop (mkF m 294 #[.val (.int x0), .val (.int x1), .val (.int x2), .val (.int x3), .val (.int x4), .val (.int (own_cp x0)), .val (.int (own_el x0 x1)), .val (.int (own_el x0 x2)), .val (.int (own_el x0 x3)), .val (.int (own_el x0 x4)), .val (.ref o), .val (.ref q11), .val (.int q12), .val (.int q13), .val (.int q14), .val (.ref q15), .val (.int q16), .val (.ref bt), .val (.ref b5), .val (.int (2 : Int32))] [(.int (1 : Int32))]))
      exact own_retN X12 hx hlk e12 (t := .boolean) hret (by simp) (hb hby at_294) (by decide) (by decide) (z' := (1 : Int32)) (by decide) ⟨rfl, N12⟩
    · refine own_of (fun _ kk => XS.icmpNo X11.here hx rfl (hb hby at_265) rfl (feq c265).1 kk) ?_
      show own_Fin _ _ _ _ _ _ _ (T11.setTop (mkF m 268 #[.val (.int x0), .val (.int x1), .val (.int x2), .val (.int x3), .val (.int x4), .val (.int (own_cp x0)), .val (.int (own_el x0 x1)), .val (.int (own_el x0 x2)), .val (.int (own_el x0 x3)), .val (.int (own_el x0 x4)), .val (.ref o), .val (.ref q11), .val (.int q12), .val (.int q13), .val (.int q14), .val (.ref q15), .val (.int q16), .val (.ref bt), .val (.ref b5), .val (.int (2 : Int32))] []))
      refine own_of (fun _ kk => XS.iload X11.here hx rfl (hb hby at_268) rfl kk) ?_
      show own_Fin _ _ _ _ _ _ _ (T11.setTop (mkF m 270 #[.val (.int x0), .val (.int x1), .val (.int x2), .val (.int x3), .val (.int x4), .val (.int (own_cp x0)), .val (.int (own_el x0 x1)), .val (.int (own_el x0 x2)), .val (.int (own_el x0 x3)), .val (.int (own_el x0 x4)), .val (.ref o), .val (.ref q11), .val (.int q12), .val (.int q13), .val (.int q14), .val (.ref q15), .val (.int q16), .val (.ref bt), .val (.ref b5), .val (.int (2 : Int32))] [(.int (own_el x0 x2))]))
      refine own_of (fun _ kk => XS.iload X11.here hx rfl (hb hby at_270) rfl kk) ?_
      show own_Fin _ _ _ _ _ _ _ (T11.setTop (mkF m 272 #[.val (.int x0), .val (.int x1), .val (.int x2), .val (.int x3), .val (.int x4), .val (.int (own_cp x0)), .val (.int (own_el x0 x1)), .val (.int (own_el x0 x2)), .val (.int (own_el x0 x3)), .val (.int (own_el x0 x4)), .val (.ref o), .val (.ref q11), .val (.int q12), .val (.int q13), .val (.int q14), .val (.ref q15), .val (.int q16), .val (.ref bt), .val (.ref b5), .val (.int (2 : Int32))] [(.int (own_el x0 x1)), (.int (own_el x0 x2))]))
      by_cases c272 : (own_el x0 x2) = (own_el x0 x1)
      · refine own_of (fun _ kk => XS.icmpYes X11.here hx rfl (pc0 := 272) (pc' := 285) rfl (hb hby at_272) rfl (teq c272).1 (by decide) (by decide) kk) ?_
        show own_Fin _ _ _ _ _ _ _ (T11.setTop (mkF m 285 #[.val (.int x0), .val (.int x1), .val (.int x2), .val (.int x3), .val (.int x4), .val (.int (own_cp x0)), .val (.int (own_el x0 x1)), .val (.int (own_el x0 x2)), .val (.int (own_el x0 x3)), .val (.int (own_el x0 x4)), .val (.ref o), .val (.ref q11), .val (.int q12), .val (.int q13), .val (.int q14), .val (.ref q15), .val (.int q16), .val (.ref bt), .val (.ref b5), .val (.int (2 : Int32))] []))
        refine own_of (fun _ kk => XS.aload X11.here hx rfl (hb hby at_285) rfl rfl kk) ?_
        show own_Fin _ _ _ _ _ _ _ (T11.setTop (mkF m 287 #[.val (.int x0), .val (.int x1), .val (.int x2), .val (.int x3), .val (.int x4), .val (.int (own_cp x0)), .val (.int (own_el x0 x1)), .val (.int (own_el x0 x2)), .val (.int (own_el x0 x3)), .val (.int (own_el x0 x4)), .val (.ref o), .val (.ref q11), .val (.int q12), .val (.int q13), .val (.int q14), .val (.ref q15), .val (.int q16), .val (.ref bt), .val (.ref b5), .val (.int (2 : Int32))] [(.ref bt)]))
        refine own_of (fun _ kk => XS.aload X11.here hx rfl (hb hby at_287) rfl rfl kk) ?_
        show own_Fin _ _ _ _ _ _ _ (T11.setTop (mkF m 289 #[.val (.int x0), .val (.int x1), .val (.int x2), .val (.int x3), .val (.int x4), .val (.int (own_cp x0)), .val (.int (own_el x0 x1)), .val (.int (own_el x0 x2)), .val (.int (own_el x0 x3)), .val (.int (own_el x0 x4)), .val (.ref o), .val (.ref q11), .val (.int q12), .val (.int q13), .val (.int q14), .val (.ref q15), .val (.int q16), .val (.ref bt), .val (.ref b5), .val (.int (2 : Int32))] [(.ref b5), (.ref bt)]))
        refine own_of (fun _ kk => XS.iload X11.here hx rfl (hb hby at_289) rfl kk) ?_
        show own_Fin _ _ _ _ _ _ _ (T11.setTop (mkF m 291 #[.val (.int x0), .val (.int x1), .val (.int x2), .val (.int x3), .val (.int x4), .val (.int (own_cp x0)), .val (.int (own_el x0 x1)), .val (.int (own_el x0 x2)), .val (.int (own_el x0 x3)), .val (.int (own_el x0 x4)), .val (.ref o), .val (.ref q11), .val (.int q12), .val (.int q13), .val (.int q14), .val (.ref q15), .val (.int q16), .val (.ref bt), .val (.ref b5), .val (.int (2 : Int32))] [(.int (2 : Int32)), (.ref b5), (.ref bt)]))
        have qc248 : ¬ own_eN x0 x1 = own_eN x0 x4 := fun z => c248 ((own_elN x0 x1 x4).mpr z)
        have qc265 : ¬ own_eN x0 x2 = own_eN x0 x4 := fun z => c265 ((own_elN x0 x2 x4).mpr z)
        have qc272 : own_eN x0 x2 = own_eN x0 x1 := (own_elN x0 x2 x1).mp c272
        have hk : nn3 = 2 := by omega
        have fg : ∀ j, j < 2 → R j = (fun j => (if j = 1 then (own_el x0 x1) else (if j = 0 then (own_el x0 x4) else (0 : Int32)))) j := fun j hj => by
          rcases (show j = 0 ∨ j = 1 by omega) with rfl | rfl
          · exact Int32.toInt_inj.mp (show (R 0).toInt = (own_el x0 x4).toInt from by rw [hR 0 (by omega)]; have := (I3.1 0 (by omega)).1; have := (own_eN1 x0 x4).1; omega)
          · exact Int32.toInt_inj.mp (show (R 1).toInt = (own_el x0 x1).toInt from by rw [hR 1 (by omega)]; have := (I3.1 1 (by omega)).1; have := (own_eN1 x0 x1).1; omega)
        rw [hk] at AB
        refine own_callS X11 hx hZ hown (hw _ (List.mem_of_getElem? (i := 68) rfl)) (hw _ (List.mem_of_getElem? (i := 69) rfl)) (hw _ (List.mem_of_getElem? (i := 70) rfl)) (hw _ (List.mem_of_getElem? (i := 71) rfl)) (by decide) e11 (argsL := [(.ref bt), (.ref b5), (.int (2 : Int32))]) (met15_2 l Z a0 hw bt b5 (2 : Int32) R (fun j => (if j = 1 then (own_el x0 x1) else (if j = 0 then (own_el x0 x4) else (0 : Int32)))) h11 n0 ZW11 rfl AB (A11.congr fun j _ => by first | rfl | (dsimp only; (repeat' split) <;> first | rfl | (exfalso; omega))) fg) (W := 0) (by decide) (by decide) (by decide) (by decide) (by rw [hml]; rfl) pd_12 rfl (rest := []) rfl (Nat.le_of_eq rfl) (hb hby at_291) ?_
        intro v13 T13 h13 L13 X13 e13 q13
        obtain ⟨rfl, qh13, rfl⟩ := q13
        rw [qh13] at e13
        have N13 := Fr.app N11 (Fr.nil n0)
        show own_Fin _ _ _ _ _ _ _ (T13.setTop (mkF m 294 #[.val (.int x0), .val (.int x1), .val (.int x2), .val (.int x3), .val (.int x4), .val (.int (own_cp x0)), .val (.int (own_el x0 x1)), .val (.int (own_el x0 x2)), .val (.int (own_el x0 x3)), .val (.int (own_el x0 x4)), .val (.ref o), .val (.ref q11), .val (.int q12), .val (.int q13), .val (.int q14), .val (.ref q15), .val (.int q16), .val (.ref bt), .val (.ref b5), .val (.int (2 : Int32))] [(.int (1 : Int32))]))
        exact own_retN X13 hx hlk e13 (t := .boolean) hret (by simp) (hb hby at_294) (by decide) (by decide) (z' := (1 : Int32)) (by decide) ⟨rfl, N13⟩
      · refine own_of (fun _ kk => XS.icmpNo X11.here hx rfl (hb hby at_272) rfl (feq c272).1 kk) ?_
        show own_Fin _ _ _ _ _ _ _ (T11.setTop (mkF m 275 #[.val (.int x0), .val (.int x1), .val (.int x2), .val (.int x3), .val (.int x4), .val (.int (own_cp x0)), .val (.int (own_el x0 x1)), .val (.int (own_el x0 x2)), .val (.int (own_el x0 x3)), .val (.int (own_el x0 x4)), .val (.ref o), .val (.ref q11), .val (.int q12), .val (.int q13), .val (.int q14), .val (.ref q15), .val (.int q16), .val (.ref bt), .val (.ref b5), .val (.int (2 : Int32))] []))
        refine own_of (fun _ kk => XS.aload X11.here hx rfl (hb hby at_275) rfl rfl kk) ?_
        show own_Fin _ _ _ _ _ _ _ (T11.setTop (mkF m 277 #[.val (.int x0), .val (.int x1), .val (.int x2), .val (.int x3), .val (.int x4), .val (.int (own_cp x0)), .val (.int (own_el x0 x1)), .val (.int (own_el x0 x2)), .val (.int (own_el x0 x3)), .val (.int (own_el x0 x4)), .val (.ref o), .val (.ref q11), .val (.int q12), .val (.int q13), .val (.int q14), .val (.ref q15), .val (.int q16), .val (.ref bt), .val (.ref b5), .val (.int (2 : Int32))] [(.ref b5)]))
        refine own_of (fun _ kk => XS.iload X11.here hx rfl (hb hby at_277) rfl kk) ?_
        show own_Fin _ _ _ _ _ _ _ (T11.setTop (mkF m 279 #[.val (.int x0), .val (.int x1), .val (.int x2), .val (.int x3), .val (.int x4), .val (.int (own_cp x0)), .val (.int (own_el x0 x1)), .val (.int (own_el x0 x2)), .val (.int (own_el x0 x3)), .val (.int (own_el x0 x4)), .val (.ref o), .val (.ref q11), .val (.int q12), .val (.int q13), .val (.int q14), .val (.ref q15), .val (.int q16), .val (.ref bt), .val (.ref b5), .val (.int (2 : Int32))] [(.int (2 : Int32)), (.ref b5)]))
        refine own_of (fun _ kk => XS.iinc X11.here hx rfl (hb hby at_279) rfl (l' := #[.val (.int x0), .val (.int x1), .val (.int x2), .val (.int x3), .val (.int x4), .val (.int (own_cp x0)), .val (.int (own_el x0 x1)), .val (.int (own_el x0 x2)), .val (.int (own_el x0 x3)), .val (.int (own_el x0 x4)), .val (.ref o), .val (.ref q11), .val (.int q12), .val (.int q13), .val (.int q14), .val (.ref q15), .val (.int q16), .val (.ref bt), .val (.ref b5), .val (.int (3 : Int32))]) rfl kk) ?_
        show own_Fin _ _ _ _ _ _ _ (T11.setTop (mkF m 282 #[.val (.int x0), .val (.int x1), .val (.int x2), .val (.int x3), .val (.int x4), .val (.int (own_cp x0)), .val (.int (own_el x0 x1)), .val (.int (own_el x0 x2)), .val (.int (own_el x0 x3)), .val (.int (own_el x0 x4)), .val (.ref o), .val (.ref q11), .val (.int q12), .val (.int q13), .val (.int q14), .val (.ref q15), .val (.int q16), .val (.ref bt), .val (.ref b5), .val (.int (3 : Int32))] [(.int (2 : Int32)), (.ref b5)]))
        refine own_of (fun _ kk => XS.iload X11.here hx rfl (hb hby at_282) rfl kk) ?_
        show own_Fin _ _ _ _ _ _ _ (T11.setTop (mkF m 284 #[.val (.int x0), .val (.int x1), .val (.int x2), .val (.int x3), .val (.int x4), .val (.int (own_cp x0)), .val (.int (own_el x0 x1)), .val (.int (own_el x0 x2)), .val (.int (own_el x0 x3)), .val (.int (own_el x0 x4)), .val (.ref o), .val (.ref q11), .val (.int q12), .val (.int q13), .val (.int q14), .val (.ref q15), .val (.int q16), .val (.ref bt), .val (.ref b5), .val (.int (3 : Int32))] [(.int (own_el x0 x2)), (.int (2 : Int32)), (.ref b5)]))
        refine own_iastore X11 hx hZ e11 A11 N11 ge_b5 (i := 2) (by decide) (by decide) (hb hby at_284) ?_
        intro T14 h14 l14 X14 N14 e14 W14 A14
        replace A14 : own_Arf Z h14 b5 .int 3 (fun j => if j = 2 then (.int (own_el x0 x2)) else (fun j => if j = 1 then (.int (own_el x0 x1)) else (fun j => if j = 0 then (.int (own_el x0 x4)) else (fun _ => (.int (0 : Int32))) j) j) j) := A14
        have ZW14 : n0 ≤ h14.size := by rw [Wr.size W14]; exact ZW11
        replace AB := AB.other W14 ne_bt_b5
        show own_Fin _ _ _ _ _ _ _ (T14.setTop (mkF m 285 #[.val (.int x0), .val (.int x1), .val (.int x2), .val (.int x3), .val (.int x4), .val (.int (own_cp x0)), .val (.int (own_el x0 x1)), .val (.int (own_el x0 x2)), .val (.int (own_el x0 x3)), .val (.int (own_el x0 x4)), .val (.ref o), .val (.ref q11), .val (.int q12), .val (.int q13), .val (.int q14), .val (.ref q15), .val (.int q16), .val (.ref bt), .val (.ref b5), .val (.int (3 : Int32))] []))
        refine own_of (fun _ kk => XS.aload X14.here hx rfl (hb hby at_285) rfl rfl kk) ?_
        show own_Fin _ _ _ _ _ _ _ (T14.setTop (mkF m 287 #[.val (.int x0), .val (.int x1), .val (.int x2), .val (.int x3), .val (.int x4), .val (.int (own_cp x0)), .val (.int (own_el x0 x1)), .val (.int (own_el x0 x2)), .val (.int (own_el x0 x3)), .val (.int (own_el x0 x4)), .val (.ref o), .val (.ref q11), .val (.int q12), .val (.int q13), .val (.int q14), .val (.ref q15), .val (.int q16), .val (.ref bt), .val (.ref b5), .val (.int (3 : Int32))] [(.ref bt)]))
        refine own_of (fun _ kk => XS.aload X14.here hx rfl (hb hby at_287) rfl rfl kk) ?_
        show own_Fin _ _ _ _ _ _ _ (T14.setTop (mkF m 289 #[.val (.int x0), .val (.int x1), .val (.int x2), .val (.int x3), .val (.int x4), .val (.int (own_cp x0)), .val (.int (own_el x0 x1)), .val (.int (own_el x0 x2)), .val (.int (own_el x0 x3)), .val (.int (own_el x0 x4)), .val (.ref o), .val (.ref q11), .val (.int q12), .val (.int q13), .val (.int q14), .val (.ref q15), .val (.int q16), .val (.ref bt), .val (.ref b5), .val (.int (3 : Int32))] [(.ref b5), (.ref bt)]))
        refine own_of (fun _ kk => XS.iload X14.here hx rfl (hb hby at_289) rfl kk) ?_
        show own_Fin _ _ _ _ _ _ _ (T14.setTop (mkF m 291 #[.val (.int x0), .val (.int x1), .val (.int x2), .val (.int x3), .val (.int x4), .val (.int (own_cp x0)), .val (.int (own_el x0 x1)), .val (.int (own_el x0 x2)), .val (.int (own_el x0 x3)), .val (.int (own_el x0 x4)), .val (.ref o), .val (.ref q11), .val (.int q12), .val (.int q13), .val (.int q14), .val (.ref q15), .val (.int q16), .val (.ref bt), .val (.ref b5), .val (.int (3 : Int32))] [(.int (3 : Int32)), (.ref b5), (.ref bt)]))
        have qc248 : ¬ own_eN x0 x1 = own_eN x0 x4 := fun z => c248 ((own_elN x0 x1 x4).mpr z)
        have qc265 : ¬ own_eN x0 x2 = own_eN x0 x4 := fun z => c265 ((own_elN x0 x2 x4).mpr z)
        have qc272 : ¬ own_eN x0 x2 = own_eN x0 x1 := fun z => c272 ((own_elN x0 x2 x1).mpr z)
        have hk : nn3 = 3 := by omega
        have fg : ∀ j, j < 3 → R j = (fun j => (if j = 2 then (own_el x0 x2) else (if j = 1 then (own_el x0 x1) else (if j = 0 then (own_el x0 x4) else (0 : Int32))))) j := fun j hj => by
          rcases (show j = 0 ∨ j = 1 ∨ j = 2 by omega) with rfl | rfl | rfl
          · exact Int32.toInt_inj.mp (show (R 0).toInt = (own_el x0 x4).toInt from by rw [hR 0 (by omega)]; have := (I3.1 0 (by omega)).1; have := (own_eN1 x0 x4).1; omega)
          · exact Int32.toInt_inj.mp (show (R 1).toInt = (own_el x0 x1).toInt from by rw [hR 1 (by omega)]; have := (I3.1 1 (by omega)).1; have := (own_eN1 x0 x1).1; omega)
          · exact Int32.toInt_inj.mp (show (R 2).toInt = (own_el x0 x2).toInt from by rw [hR 2 (by omega)]; have := (I3.1 2 (by omega)).1; have := (own_eN1 x0 x2).1; omega)
        rw [hk] at AB
        refine own_callS X14 hx hZ hown (hw _ (List.mem_of_getElem? (i := 68) rfl)) (hw _ (List.mem_of_getElem? (i := 69) rfl)) (hw _ (List.mem_of_getElem? (i := 70) rfl)) (hw _ (List.mem_of_getElem? (i := 71) rfl)) (by decide) e14 (argsL := [(.ref bt), (.ref b5), (.int (3 : Int32))]) (met15_3 l Z a0 hw bt b5 (3 : Int32) R (fun j => (if j = 2 then (own_el x0 x2) else (if j = 1 then (own_el x0 x1) else (if j = 0 then (own_el x0 x4) else (0 : Int32))))) h14 n0 ZW14 rfl AB (A14.congr fun j _ => by first | rfl | (dsimp only; (repeat' split) <;> first | rfl | (exfalso; omega))) fg) (W := 0) (by decide) (by decide) (by decide) (by decide) (by rw [hml]; rfl) pd_12 rfl (rest := []) rfl (Nat.le_of_eq rfl) (hb hby at_291) ?_
        intro v15 T15 h15 L15 X15 e15 q15
        obtain ⟨rfl, qh15, rfl⟩ := q15
        rw [qh15] at e15
        have N15 := Fr.app N14 (Fr.nil n0)
        show own_Fin _ _ _ _ _ _ _ (T15.setTop (mkF m 294 #[.val (.int x0), .val (.int x1), .val (.int x2), .val (.int x3), .val (.int x4), .val (.int (own_cp x0)), .val (.int (own_el x0 x1)), .val (.int (own_el x0 x2)), .val (.int (own_el x0 x3)), .val (.int (own_el x0 x4)), .val (.ref o), .val (.ref q11), .val (.int q12), .val (.int q13), .val (.int q14), .val (.ref q15), .val (.int q16), .val (.ref bt), .val (.ref b5), .val (.int (3 : Int32))] [(.int (1 : Int32))]))
        exact own_retN X15 hx hlk e15 (t := .boolean) hret (by simp) (hb hby at_294) (by decide) (by decide) (z' := (1 : Int32)) (by decide) ⟨rfl, N15⟩
set_option maxRecDepth 65536 in
set_option maxHeartbeats 40000000 in
theorem own_p132 (l : Launch) (Z : State) (a0 : Array Value) (hw : ∀ d ∈ tables_1, d.before a0 Z = true) (x0 : Int32) (x1 : Int32) (x2 : Int32) (x3 : Int32) (x4 : Int32) (o : Addr) (a1 : Addr) (a2 : Addr) (a3 : Addr) (V : Nat → Int32) (H' : Nat → Int64) (D' : Nat → Int32) (ee : Nat → Nat) (d' : Nat → Nat) (bs : Addr) (R : Nat → Int32) (n3 : Nat) (q12 : Int32) (q13 : Int32) (q14 : Int32) (n0 : Nat) {p : Program} {e : Env} {s : State} {m : MethodId} {args : Array Value} {below : List Frame} {meth : Method} {c : Code} (hx : p.tables.exec = Jvm.exec) (hby : c.code = code) (hml : c.maxLocals = 20) (hown : s.vm.findClass "com/example/shardloom/shardloom/VertexSetAddPinLaw" = some m.cls) (hZ : Z.Warmed39 s.vm) (hret : meth.sig.returnType = ret) (hlk : meth.locks = false)
    (T0 : State) (locs : List Loc) (h0 : Heap) (X0 : Stand p l e room_1 s m args below meth c T0 locs (6) (230)) (N0 : Fr n0 locs) (Z0 : n0 ≤ h0.size) (e0 : T0.heap = h0) (Ox : own_VS Z h0 n0 o (own_cN x0) (own_wN x0) 0 0 a1 a2 a3 V H' D') (Ix : own_Inv (own_cN x0) (own_wN x0) 0 0 ee d' V D' H') (gbs : n0 ≤ bs) (AS : own_Arf Z h0 bs .int n3 (fun j => .int (R j))) (hR : ∀ t, t < n3 → (R t).toInt = (own_T (own_eN x0 x1) (own_eN x0 x2) (own_eN x0 x3) t : Int)) (hn : (own_mid (own_eN x0 x1) (own_eN x0 x2) (own_eN x0 x3) = own_lo (own_eN x0 x1) (own_eN x0 x2) (own_eN x0 x3) → own_hi (own_eN x0 x1) (own_eN x0 x2) (own_eN x0 x3) = own_mid (own_eN x0 x1) (own_eN x0 x2) (own_eN x0 x3) → n3 = 1) ∧ (own_mid (own_eN x0 x1) (own_eN x0 x2) (own_eN x0 x3) = own_lo (own_eN x0 x1) (own_eN x0 x2) (own_eN x0 x3) → ¬ own_hi (own_eN x0 x1) (own_eN x0 x2) (own_eN x0 x3) = own_mid (own_eN x0 x1) (own_eN x0 x2) (own_eN x0 x3) → n3 = 2) ∧ (¬ own_mid (own_eN x0 x1) (own_eN x0 x2) (own_eN x0 x3) = own_lo (own_eN x0 x1) (own_eN x0 x2) (own_eN x0 x3) → own_hi (own_eN x0 x1) (own_eN x0 x2) (own_eN x0 x3) = own_mid (own_eN x0 x1) (own_eN x0 x2) (own_eN x0 x3) → n3 = 2) ∧ (¬ own_mid (own_eN x0 x1) (own_eN x0 x2) (own_eN x0 x3) = own_lo (own_eN x0 x1) (own_eN x0 x2) (own_eN x0 x3) → ¬ own_hi (own_eN x0 x1) (own_eN x0 x2) (own_eN x0 x3) = own_mid (own_eN x0 x1) (own_eN x0 x2) (own_eN x0 x3) → n3 = 3)) (hlo : q12.toInt = (own_lo (own_eN x0 x1) (own_eN x0 x2) (own_eN x0 x3) : Int)) (hhi : q13.toInt = (own_hi (own_eN x0 x1) (own_eN x0 x2) (own_eN x0 x3) : Int)) (hmid : q14.toInt = (own_mid (own_eN x0 x1) (own_eN x0 x2) (own_eN x0 x3) : Int)) : own_Fin p e below s (room_1.cells) (room_1.slots) (fun v h L => v = some (.int 1) ∧ Fr n0 L) (T0.setTop (mkF m 132 #[.val (.int x0), .val (.int x1), .val (.int x2), .val (.int x3), .val (.int x4), .val (.int (own_cp x0)), .val (.int (own_el x0 x1)), .val (.int (own_el x0 x2)), .val (.int (own_el x0 x3)), .val (.int (own_el x0 x4)), .val (.ref o), .val (.ref bs), .val (.int q12), .val (.int q13), .val (.int q14), .unset, .unset, .unset, .unset, .unset] [])) := by
  show own_Fin _ _ _ _ _ _ _ (T0.setTop (mkF m 132 #[.val (.int x0), .val (.int x1), .val (.int x2), .val (.int x3), .val (.int x4), .val (.int (own_cp x0)), .val (.int (own_el x0 x1)), .val (.int (own_el x0 x2)), .val (.int (own_el x0 x3)), .val (.int (own_el x0 x4)), .val (.ref o), .val (.ref bs), .val (.int q12), .val (.int q13), .val (.int q14), .unset, .unset, .unset, .unset, .unset] []))
  refine own_of (fun _ kk => XS.iconst X0.here hx rfl (hb hby at_132) kk) ?_
  show own_Fin _ _ _ _ _ _ _ (T0.setTop (mkF m 133 #[.val (.int x0), .val (.int x1), .val (.int x2), .val (.int x3), .val (.int x4), .val (.int (own_cp x0)), .val (.int (own_el x0 x1)), .val (.int (own_el x0 x2)), .val (.int (own_el x0 x3)), .val (.int (own_el x0 x4)), .val (.ref o), .val (.ref bs), .val (.int q12), .val (.int q13), .val (.int q14), .unset, .unset, .unset, .unset, .unset] [(.int (3 : Int32))]))
  refine own_newP X0 hx hZ (hw _ (List.mem_of_getElem? (i := 10) rfl)) e0 (hb hby at_133) (n := 3) (by decide) (cap := 3) (Nat.le_refl _) (by decide) (by decide) (by decide) ?_
  intro T1 h1 b1 X1 e1 E1 g1 A1
  have far_Ox_b1 := Ox.far b1 g1
  have ne_bs_b1 : bs ≠ b1 := Nat.ne_of_lt (by rw [g1]; exact AS.lt)
  replace Ox := Ox.ext E1
  replace AS := AS.ext E1
  have Z1 : n0 ≤ h1.size := Nat.le_trans Z0 E1.1
  have ge_b1 : n0 ≤ b1 := by rw [g1]; exact Z0
  replace A1 : own_Arf Z h1 b1 .int 3 (fun _ => (.int (0 : Int32))) := A1
  show own_Fin _ _ _ _ _ _ _ (T1.setTop (mkF m 135 #[.val (.int x0), .val (.int x1), .val (.int x2), .val (.int x3), .val (.int x4), .val (.int (own_cp x0)), .val (.int (own_el x0 x1)), .val (.int (own_el x0 x2)), .val (.int (own_el x0 x3)), .val (.int (own_el x0 x4)), .val (.ref o), .val (.ref bs), .val (.int q12), .val (.int q13), .val (.int q14), .unset, .unset, .unset, .unset, .unset] [(.ref b1)]))
  refine own_of (fun _ kk => XS.astore X1.here hx rfl (hb hby at_135) rfl rfl (l' := #[.val (.int x0), .val (.int x1), .val (.int x2), .val (.int x3), .val (.int x4), .val (.int (own_cp x0)), .val (.int (own_el x0 x1)), .val (.int (own_el x0 x2)), .val (.int (own_el x0 x3)), .val (.int (own_el x0 x4)), .val (.ref o), .val (.ref bs), .val (.int q12), .val (.int q13), .val (.int q14), .val (.ref b1), .unset, .unset, .unset, .unset]) rfl kk) ?_
  show own_Fin _ _ _ _ _ _ _ (T1.setTop (mkF m 137 #[.val (.int x0), .val (.int x1), .val (.int x2), .val (.int x3), .val (.int x4), .val (.int (own_cp x0)), .val (.int (own_el x0 x1)), .val (.int (own_el x0 x2)), .val (.int (own_el x0 x3)), .val (.int (own_el x0 x4)), .val (.ref o), .val (.ref bs), .val (.int q12), .val (.int q13), .val (.int q14), .val (.ref b1), .unset, .unset, .unset, .unset] []))
  refine own_of (fun _ kk => XS.iconst X1.here hx rfl (hb hby at_137) kk) ?_
  show own_Fin _ _ _ _ _ _ _ (T1.setTop (mkF m 138 #[.val (.int x0), .val (.int x1), .val (.int x2), .val (.int x3), .val (.int x4), .val (.int (own_cp x0)), .val (.int (own_el x0 x1)), .val (.int (own_el x0 x2)), .val (.int (own_el x0 x3)), .val (.int (own_el x0 x4)), .val (.ref o), .val (.ref bs), .val (.int q12), .val (.int q13), .val (.int q14), .val (.ref b1), .unset, .unset, .unset, .unset] [(.int (0 : Int32))]))
  refine own_of (fun _ kk => XS.istore X1.here hx rfl (hb hby at_138) rfl (l' := #[.val (.int x0), .val (.int x1), .val (.int x2), .val (.int x3), .val (.int x4), .val (.int (own_cp x0)), .val (.int (own_el x0 x1)), .val (.int (own_el x0 x2)), .val (.int (own_el x0 x3)), .val (.int (own_el x0 x4)), .val (.ref o), .val (.ref bs), .val (.int q12), .val (.int q13), .val (.int q14), .val (.ref b1), .val (.int (0 : Int32)), .unset, .unset, .unset]) rfl kk) ?_
  show own_Fin _ _ _ _ _ _ _ (T1.setTop (mkF m 140 #[.val (.int x0), .val (.int x1), .val (.int x2), .val (.int x3), .val (.int x4), .val (.int (own_cp x0)), .val (.int (own_el x0 x1)), .val (.int (own_el x0 x2)), .val (.int (own_el x0 x3)), .val (.int (own_el x0 x4)), .val (.ref o), .val (.ref bs), .val (.int q12), .val (.int q13), .val (.int q14), .val (.ref b1), .val (.int (0 : Int32)), .unset, .unset, .unset] []))
  refine own_of (fun _ kk => XS.aload X1.here hx rfl (hb hby at_140) rfl rfl kk) ?_
  show own_Fin _ _ _ _ _ _ _ (T1.setTop (mkF m 142 #[.val (.int x0), .val (.int x1), .val (.int x2), .val (.int x3), .val (.int x4), .val (.int (own_cp x0)), .val (.int (own_el x0 x1)), .val (.int (own_el x0 x2)), .val (.int (own_el x0 x3)), .val (.int (own_el x0 x4)), .val (.ref o), .val (.ref bs), .val (.int q12), .val (.int q13), .val (.int q14), .val (.ref b1), .val (.int (0 : Int32)), .unset, .unset, .unset] [(.ref b1)]))
  refine own_of (fun _ kk => XS.iload X1.here hx rfl (hb hby at_142) rfl kk) ?_
  show own_Fin _ _ _ _ _ _ _ (T1.setTop (mkF m 144 #[.val (.int x0), .val (.int x1), .val (.int x2), .val (.int x3), .val (.int x4), .val (.int (own_cp x0)), .val (.int (own_el x0 x1)), .val (.int (own_el x0 x2)), .val (.int (own_el x0 x3)), .val (.int (own_el x0 x4)), .val (.ref o), .val (.ref bs), .val (.int q12), .val (.int q13), .val (.int q14), .val (.ref b1), .val (.int (0 : Int32)), .unset, .unset, .unset] [(.int (0 : Int32)), (.ref b1)]))
  refine own_of (fun _ kk => XS.iinc X1.here hx rfl (hb hby at_144) rfl (l' := #[.val (.int x0), .val (.int x1), .val (.int x2), .val (.int x3), .val (.int x4), .val (.int (own_cp x0)), .val (.int (own_el x0 x1)), .val (.int (own_el x0 x2)), .val (.int (own_el x0 x3)), .val (.int (own_el x0 x4)), .val (.ref o), .val (.ref bs), .val (.int q12), .val (.int q13), .val (.int q14), .val (.ref b1), .val (.int (1 : Int32)), .unset, .unset, .unset]) rfl kk) ?_
  show own_Fin _ _ _ _ _ _ _ (T1.setTop (mkF m 147 #[.val (.int x0), .val (.int x1), .val (.int x2), .val (.int x3), .val (.int x4), .val (.int (own_cp x0)), .val (.int (own_el x0 x1)), .val (.int (own_el x0 x2)), .val (.int (own_el x0 x3)), .val (.int (own_el x0 x4)), .val (.ref o), .val (.ref bs), .val (.int q12), .val (.int q13), .val (.int q14), .val (.ref b1), .val (.int (1 : Int32)), .unset, .unset, .unset] [(.int (0 : Int32)), (.ref b1)]))
  refine own_of (fun _ kk => XS.iload X1.here hx rfl (hb hby at_147) rfl kk) ?_
  show own_Fin _ _ _ _ _ _ _ (T1.setTop (mkF m 149 #[.val (.int x0), .val (.int x1), .val (.int x2), .val (.int x3), .val (.int x4), .val (.int (own_cp x0)), .val (.int (own_el x0 x1)), .val (.int (own_el x0 x2)), .val (.int (own_el x0 x3)), .val (.int (own_el x0 x4)), .val (.ref o), .val (.ref bs), .val (.int q12), .val (.int q13), .val (.int q14), .val (.ref b1), .val (.int (1 : Int32)), .unset, .unset, .unset] [(.int q12), (.int (0 : Int32)), (.ref b1)]))
  refine own_iastore X1 hx hZ e1 A1 N0 ge_b1 (i := 0) (by decide) (by decide) (hb hby at_149) ?_
  intro T2 h2 l2 X2 N2 e2 W2 A2
  replace A2 : own_Arf Z h2 b1 .int 3 (fun j => if j = 0 then (.int q12) else (fun _ => (.int (0 : Int32))) j) := A2
  have ZW2 : n0 ≤ h2.size := by rw [Wr.size W2]; exact Z1
  replace Ox := Ox.wr W2 far_Ox_b1
  replace AS := AS.other W2 ne_bs_b1
  show own_Fin _ _ _ _ _ _ _ (T2.setTop (mkF m 150 #[.val (.int x0), .val (.int x1), .val (.int x2), .val (.int x3), .val (.int x4), .val (.int (own_cp x0)), .val (.int (own_el x0 x1)), .val (.int (own_el x0 x2)), .val (.int (own_el x0 x3)), .val (.int (own_el x0 x4)), .val (.ref o), .val (.ref bs), .val (.int q12), .val (.int q13), .val (.int q14), .val (.ref b1), .val (.int (1 : Int32)), .unset, .unset, .unset] []))
  refine own_of (fun _ kk => XS.iload X2.here hx rfl (hb hby at_150) rfl kk) ?_
  show own_Fin _ _ _ _ _ _ _ (T2.setTop (mkF m 152 #[.val (.int x0), .val (.int x1), .val (.int x2), .val (.int x3), .val (.int x4), .val (.int (own_cp x0)), .val (.int (own_el x0 x1)), .val (.int (own_el x0 x2)), .val (.int (own_el x0 x3)), .val (.int (own_el x0 x4)), .val (.ref o), .val (.ref bs), .val (.int q12), .val (.int q13), .val (.int q14), .val (.ref b1), .val (.int (1 : Int32)), .unset, .unset, .unset] [(.int q14)]))
  refine own_of (fun _ kk => XS.iload X2.here hx rfl (hb hby at_152) rfl kk) ?_
  show own_Fin _ _ _ _ _ _ _ (T2.setTop (mkF m 154 #[.val (.int x0), .val (.int x1), .val (.int x2), .val (.int x3), .val (.int x4), .val (.int (own_cp x0)), .val (.int (own_el x0 x1)), .val (.int (own_el x0 x2)), .val (.int (own_el x0 x3)), .val (.int (own_el x0 x4)), .val (.ref o), .val (.ref bs), .val (.int q12), .val (.int q13), .val (.int q14), .val (.ref b1), .val (.int (1 : Int32)), .unset, .unset, .unset] [(.int q12), (.int q14)]))
  by_cases c154 : q14 = q12
  · refine own_of (fun _ kk => XS.icmpYes X2.here hx rfl (pc0 := 154) (pc' := 167) rfl (hb hby at_154) rfl (teq c154).1 (by decide) (by decide) kk) ?_
    show own_Fin _ _ _ _ _ _ _ (T2.setTop (mkF m 167 #[.val (.int x0), .val (.int x1), .val (.int x2), .val (.int x3), .val (.int x4), .val (.int (own_cp x0)), .val (.int (own_el x0 x1)), .val (.int (own_el x0 x2)), .val (.int (own_el x0 x3)), .val (.int (own_el x0 x4)), .val (.ref o), .val (.ref bs), .val (.int q12), .val (.int q13), .val (.int q14), .val (.ref b1), .val (.int (1 : Int32)), .unset, .unset, .unset] []))
    refine own_of (fun _ kk => XS.iload X2.here hx rfl (hb hby at_167) rfl kk) ?_
    show own_Fin _ _ _ _ _ _ _ (T2.setTop (mkF m 169 #[.val (.int x0), .val (.int x1), .val (.int x2), .val (.int x3), .val (.int x4), .val (.int (own_cp x0)), .val (.int (own_el x0 x1)), .val (.int (own_el x0 x2)), .val (.int (own_el x0 x3)), .val (.int (own_el x0 x4)), .val (.ref o), .val (.ref bs), .val (.int q12), .val (.int q13), .val (.int q14), .val (.ref b1), .val (.int (1 : Int32)), .unset, .unset, .unset] [(.int q13)]))
    refine own_of (fun _ kk => XS.iload X2.here hx rfl (hb hby at_169) rfl kk) ?_
    show own_Fin _ _ _ _ _ _ _ (T2.setTop (mkF m 171 #[.val (.int x0), .val (.int x1), .val (.int x2), .val (.int x3), .val (.int x4), .val (.int (own_cp x0)), .val (.int (own_el x0 x1)), .val (.int (own_el x0 x2)), .val (.int (own_el x0 x3)), .val (.int (own_el x0 x4)), .val (.ref o), .val (.ref bs), .val (.int q12), .val (.int q13), .val (.int q14), .val (.ref b1), .val (.int (1 : Int32)), .unset, .unset, .unset] [(.int q14), (.int q13)]))
    by_cases c171 : q13 = q14
    · refine own_of (fun _ kk => XS.icmpYes X2.here hx rfl (pc0 := 171) (pc' := 184) rfl (hb hby at_171) rfl (teq c171).1 (by decide) (by decide) kk) ?_
      show own_Fin _ _ _ _ _ _ _ (T2.setTop (mkF m 184 #[.val (.int x0), .val (.int x1), .val (.int x2), .val (.int x3), .val (.int x4), .val (.int (own_cp x0)), .val (.int (own_el x0 x1)), .val (.int (own_el x0 x2)), .val (.int (own_el x0 x3)), .val (.int (own_el x0 x4)), .val (.ref o), .val (.ref bs), .val (.int q12), .val (.int q13), .val (.int q14), .val (.ref b1), .val (.int (1 : Int32)), .unset, .unset, .unset] []))
      refine own_of (fun _ kk => XS.aload X2.here hx rfl (hb hby at_184) rfl rfl kk) ?_
      show own_Fin _ _ _ _ _ _ _ (T2.setTop (mkF m 186 #[.val (.int x0), .val (.int x1), .val (.int x2), .val (.int x3), .val (.int x4), .val (.int (own_cp x0)), .val (.int (own_el x0 x1)), .val (.int (own_el x0 x2)), .val (.int (own_el x0 x3)), .val (.int (own_el x0 x4)), .val (.ref o), .val (.ref bs), .val (.int q12), .val (.int q13), .val (.int q14), .val (.ref b1), .val (.int (1 : Int32)), .unset, .unset, .unset] [(.ref bs)]))
      refine own_of (fun _ kk => XS.aload X2.here hx rfl (hb hby at_186) rfl rfl kk) ?_
      show own_Fin _ _ _ _ _ _ _ (T2.setTop (mkF m 188 #[.val (.int x0), .val (.int x1), .val (.int x2), .val (.int x3), .val (.int x4), .val (.int (own_cp x0)), .val (.int (own_el x0 x1)), .val (.int (own_el x0 x2)), .val (.int (own_el x0 x3)), .val (.int (own_el x0 x4)), .val (.ref o), .val (.ref bs), .val (.int q12), .val (.int q13), .val (.int q14), .val (.ref b1), .val (.int (1 : Int32)), .unset, .unset, .unset] [(.ref b1), (.ref bs)]))
      refine own_of (fun _ kk => XS.iload X2.here hx rfl (hb hby at_188) rfl kk) ?_
      show own_Fin _ _ _ _ _ _ _ (T2.setTop (mkF m 190 #[.val (.int x0), .val (.int x1), .val (.int x2), .val (.int x3), .val (.int x4), .val (.int (own_cp x0)), .val (.int (own_el x0 x1)), .val (.int (own_el x0 x2)), .val (.int (own_el x0 x3)), .val (.int (own_el x0 x4)), .val (.ref o), .val (.ref bs), .val (.int q12), .val (.int q13), .val (.int q14), .val (.ref b1), .val (.int (1 : Int32)), .unset, .unset, .unset] [(.int (1 : Int32)), (.ref b1), (.ref bs)]))
      obtain ⟨hk, fg⟩ := own_fgtt hR hn hlo hhi hmid c154 c171
      subst hk
      refine own_callS X2 hx hZ hown (hw _ (List.mem_of_getElem? (i := 68) rfl)) (hw _ (List.mem_of_getElem? (i := 69) rfl)) (hw _ (List.mem_of_getElem? (i := 70) rfl)) (hw _ (List.mem_of_getElem? (i := 71) rfl)) (by decide) e2 (argsL := [(.ref bs), (.ref b1), (.int (1 : Int32))]) (met15_1 l Z a0 hw bs b1 (1 : Int32) R (fun j => (if j = 0 then q12 else (0 : Int32))) h2 n0 ZW2 rfl AS (A2.congr fun j _ => by first | rfl | (dsimp only; (repeat' split) <;> first | rfl | (exfalso; omega))) fg) (W := 0) (by decide) (by decide) (by decide) (by decide) (by rw [hml]; rfl) pd_12 rfl (rest := []) rfl (Nat.le_of_eq rfl) (hb hby at_190) ?_
      intro v3 T3 h3 L3 X3 e3 q3
      obtain ⟨rfl, qh3, rfl⟩ := q3
      rw [qh3] at e3
      have N3 := Fr.app N2 (Fr.nil n0)
      show own_Fin _ _ _ _ _ _ _ (T3.setTop (mkF m 193 #[.val (.int x0), .val (.int x1), .val (.int x2), .val (.int x3), .val (.int x4), .val (.int (own_cp x0)), .val (.int (own_el x0 x1)), .val (.int (own_el x0 x2)), .val (.int (own_el x0 x3)), .val (.int (own_el x0 x4)), .val (.ref o), .val (.ref bs), .val (.int q12), .val (.int q13), .val (.int q14), .val (.ref b1), .val (.int (1 : Int32)), .unset, .unset, .unset] [(.int (1 : Int32))]))
      refine own_of (fun _ kk => XS.ifYes X3.here hx rfl (pc0 := 193) (pc' := 198) rfl (hb hby at_193) rfl ((if0 _ _).trans (feq (by decide : ¬ ((1 : Int32) = (0 : Int32)))).2) (by decide) (by decide) kk) ?_
      show own_Fin _ _ _ _ _ _ _ (T3.setTop (mkF m 198 #[.val (.int x0), .val (.int x1), .val (.int x2), .val (.int x3), .val (.int x4), .val (.int (own_cp x0)), .val (.int (own_el x0 x1)), .val (.int (own_el x0 x2)), .val (.int (own_el x0 x3)), .val (.int (own_el x0 x4)), .val (.ref o), .val (.ref bs), .val (.int q12), .val (.int q13), .val (.int q14), .val (.ref b1), .val (.int (1 : Int32)), .unset, .unset, .unset] []))
      exact own_p2 l Z a0 hw x0 x1 x2 x3 x4 o a1 a2 a3 V H' D' ee d' bs q12 q13 q14 b1 (1 : Int32) n0 hx hby hml hown hZ hret hlk T3 _ h2 (own_wide X3 (by decide) (by decide)) N3 ZW2 e3 Ox Ix
    · refine own_of (fun _ kk => XS.icmpNo X2.here hx rfl (hb hby at_171) rfl (feq c171).1 kk) ?_
      show own_Fin _ _ _ _ _ _ _ (T2.setTop (mkF m 174 #[.val (.int x0), .val (.int x1), .val (.int x2), .val (.int x3), .val (.int x4), .val (.int (own_cp x0)), .val (.int (own_el x0 x1)), .val (.int (own_el x0 x2)), .val (.int (own_el x0 x3)), .val (.int (own_el x0 x4)), .val (.ref o), .val (.ref bs), .val (.int q12), .val (.int q13), .val (.int q14), .val (.ref b1), .val (.int (1 : Int32)), .unset, .unset, .unset] []))
      refine own_of (fun _ kk => XS.aload X2.here hx rfl (hb hby at_174) rfl rfl kk) ?_
      show own_Fin _ _ _ _ _ _ _ (T2.setTop (mkF m 176 #[.val (.int x0), .val (.int x1), .val (.int x2), .val (.int x3), .val (.int x4), .val (.int (own_cp x0)), .val (.int (own_el x0 x1)), .val (.int (own_el x0 x2)), .val (.int (own_el x0 x3)), .val (.int (own_el x0 x4)), .val (.ref o), .val (.ref bs), .val (.int q12), .val (.int q13), .val (.int q14), .val (.ref b1), .val (.int (1 : Int32)), .unset, .unset, .unset] [(.ref b1)]))
      refine own_of (fun _ kk => XS.iload X2.here hx rfl (hb hby at_176) rfl kk) ?_
      show own_Fin _ _ _ _ _ _ _ (T2.setTop (mkF m 178 #[.val (.int x0), .val (.int x1), .val (.int x2), .val (.int x3), .val (.int x4), .val (.int (own_cp x0)), .val (.int (own_el x0 x1)), .val (.int (own_el x0 x2)), .val (.int (own_el x0 x3)), .val (.int (own_el x0 x4)), .val (.ref o), .val (.ref bs), .val (.int q12), .val (.int q13), .val (.int q14), .val (.ref b1), .val (.int (1 : Int32)), .unset, .unset, .unset] [(.int (1 : Int32)), (.ref b1)]))
      refine own_of (fun _ kk => XS.iinc X2.here hx rfl (hb hby at_178) rfl (l' := #[.val (.int x0), .val (.int x1), .val (.int x2), .val (.int x3), .val (.int x4), .val (.int (own_cp x0)), .val (.int (own_el x0 x1)), .val (.int (own_el x0 x2)), .val (.int (own_el x0 x3)), .val (.int (own_el x0 x4)), .val (.ref o), .val (.ref bs), .val (.int q12), .val (.int q13), .val (.int q14), .val (.ref b1), .val (.int (2 : Int32)), .unset, .unset, .unset]) rfl kk) ?_
      show own_Fin _ _ _ _ _ _ _ (T2.setTop (mkF m 181 #[.val (.int x0), .val (.int x1), .val (.int x2), .val (.int x3), .val (.int x4), .val (.int (own_cp x0)), .val (.int (own_el x0 x1)), .val (.int (own_el x0 x2)), .val (.int (own_el x0 x3)), .val (.int (own_el x0 x4)), .val (.ref o), .val (.ref bs), .val (.int q12), .val (.int q13), .val (.int q14), .val (.ref b1), .val (.int (2 : Int32)), .unset, .unset, .unset] [(.int (1 : Int32)), (.ref b1)]))
      refine own_of (fun _ kk => XS.iload X2.here hx rfl (hb hby at_181) rfl kk) ?_
      show own_Fin _ _ _ _ _ _ _ (T2.setTop (mkF m 183 #[.val (.int x0), .val (.int x1), .val (.int x2), .val (.int x3), .val (.int x4), .val (.int (own_cp x0)), .val (.int (own_el x0 x1)), .val (.int (own_el x0 x2)), .val (.int (own_el x0 x3)), .val (.int (own_el x0 x4)), .val (.ref o), .val (.ref bs), .val (.int q12), .val (.int q13), .val (.int q14), .val (.ref b1), .val (.int (2 : Int32)), .unset, .unset, .unset] [(.int q13), (.int (1 : Int32)), (.ref b1)]))
      refine own_iastore X2 hx hZ e2 A2 N2 ge_b1 (i := 1) (by decide) (by decide) (hb hby at_183) ?_
      intro T4 h4 l4 X4 N4 e4 W4 A4
      replace A4 : own_Arf Z h4 b1 .int 3 (fun j => if j = 1 then (.int q13) else (fun j => if j = 0 then (.int q12) else (fun _ => (.int (0 : Int32))) j) j) := A4
      have ZW4 : n0 ≤ h4.size := by rw [Wr.size W4]; exact ZW2
      replace Ox := Ox.wr W4 far_Ox_b1
      replace AS := AS.other W4 ne_bs_b1
      show own_Fin _ _ _ _ _ _ _ (T4.setTop (mkF m 184 #[.val (.int x0), .val (.int x1), .val (.int x2), .val (.int x3), .val (.int x4), .val (.int (own_cp x0)), .val (.int (own_el x0 x1)), .val (.int (own_el x0 x2)), .val (.int (own_el x0 x3)), .val (.int (own_el x0 x4)), .val (.ref o), .val (.ref bs), .val (.int q12), .val (.int q13), .val (.int q14), .val (.ref b1), .val (.int (2 : Int32)), .unset, .unset, .unset] []))
      refine own_of (fun _ kk => XS.aload X4.here hx rfl (hb hby at_184) rfl rfl kk) ?_
      show own_Fin _ _ _ _ _ _ _ (T4.setTop (mkF m 186 #[.val (.int x0), .val (.int x1), .val (.int x2), .val (.int x3), .val (.int x4), .val (.int (own_cp x0)), .val (.int (own_el x0 x1)), .val (.int (own_el x0 x2)), .val (.int (own_el x0 x3)), .val (.int (own_el x0 x4)), .val (.ref o), .val (.ref bs), .val (.int q12), .val (.int q13), .val (.int q14), .val (.ref b1), .val (.int (2 : Int32)), .unset, .unset, .unset] [(.ref bs)]))
      refine own_of (fun _ kk => XS.aload X4.here hx rfl (hb hby at_186) rfl rfl kk) ?_
      show own_Fin _ _ _ _ _ _ _ (T4.setTop (mkF m 188 #[.val (.int x0), .val (.int x1), .val (.int x2), .val (.int x3), .val (.int x4), .val (.int (own_cp x0)), .val (.int (own_el x0 x1)), .val (.int (own_el x0 x2)), .val (.int (own_el x0 x3)), .val (.int (own_el x0 x4)), .val (.ref o), .val (.ref bs), .val (.int q12), .val (.int q13), .val (.int q14), .val (.ref b1), .val (.int (2 : Int32)), .unset, .unset, .unset] [(.ref b1), (.ref bs)]))
      refine own_of (fun _ kk => XS.iload X4.here hx rfl (hb hby at_188) rfl kk) ?_
      show own_Fin _ _ _ _ _ _ _ (T4.setTop (mkF m 190 #[.val (.int x0), .val (.int x1), .val (.int x2), .val (.int x3), .val (.int x4), .val (.int (own_cp x0)), .val (.int (own_el x0 x1)), .val (.int (own_el x0 x2)), .val (.int (own_el x0 x3)), .val (.int (own_el x0 x4)), .val (.ref o), .val (.ref bs), .val (.int q12), .val (.int q13), .val (.int q14), .val (.ref b1), .val (.int (2 : Int32)), .unset, .unset, .unset] [(.int (2 : Int32)), (.ref b1), (.ref bs)]))
      obtain ⟨hk, fg⟩ := own_fgtf hR hn hlo hhi hmid c154 c171
      subst hk
      refine own_callS X4 hx hZ hown (hw _ (List.mem_of_getElem? (i := 68) rfl)) (hw _ (List.mem_of_getElem? (i := 69) rfl)) (hw _ (List.mem_of_getElem? (i := 70) rfl)) (hw _ (List.mem_of_getElem? (i := 71) rfl)) (by decide) e4 (argsL := [(.ref bs), (.ref b1), (.int (2 : Int32))]) (met15_2 l Z a0 hw bs b1 (2 : Int32) R (fun j => (if j = 1 then q13 else (if j = 0 then q12 else (0 : Int32)))) h4 n0 ZW4 rfl AS (A4.congr fun j _ => by first | rfl | (dsimp only; (repeat' split) <;> first | rfl | (exfalso; omega))) fg) (W := 0) (by decide) (by decide) (by decide) (by decide) (by rw [hml]; rfl) pd_12 rfl (rest := []) rfl (Nat.le_of_eq rfl) (hb hby at_190) ?_
      intro v5 T5 h5 L5 X5 e5 q5
      obtain ⟨rfl, qh5, rfl⟩ := q5
      rw [qh5] at e5
      have N5 := Fr.app N4 (Fr.nil n0)
      show own_Fin _ _ _ _ _ _ _ (T5.setTop (mkF m 193 #[.val (.int x0), .val (.int x1), .val (.int x2), .val (.int x3), .val (.int x4), .val (.int (own_cp x0)), .val (.int (own_el x0 x1)), .val (.int (own_el x0 x2)), .val (.int (own_el x0 x3)), .val (.int (own_el x0 x4)), .val (.ref o), .val (.ref bs), .val (.int q12), .val (.int q13), .val (.int q14), .val (.ref b1), .val (.int (2 : Int32)), .unset, .unset, .unset] [(.int (1 : Int32))]))
      refine own_of (fun _ kk => XS.ifYes X5.here hx rfl (pc0 := 193) (pc' := 198) rfl (hb hby at_193) rfl ((if0 _ _).trans (feq (by decide : ¬ ((1 : Int32) = (0 : Int32)))).2) (by decide) (by decide) kk) ?_
      show own_Fin _ _ _ _ _ _ _ (T5.setTop (mkF m 198 #[.val (.int x0), .val (.int x1), .val (.int x2), .val (.int x3), .val (.int x4), .val (.int (own_cp x0)), .val (.int (own_el x0 x1)), .val (.int (own_el x0 x2)), .val (.int (own_el x0 x3)), .val (.int (own_el x0 x4)), .val (.ref o), .val (.ref bs), .val (.int q12), .val (.int q13), .val (.int q14), .val (.ref b1), .val (.int (2 : Int32)), .unset, .unset, .unset] []))
      exact own_p2 l Z a0 hw x0 x1 x2 x3 x4 o a1 a2 a3 V H' D' ee d' bs q12 q13 q14 b1 (2 : Int32) n0 hx hby hml hown hZ hret hlk T5 _ h4 (own_wide X5 (by decide) (by decide)) N5 ZW4 e5 Ox Ix
  · refine own_of (fun _ kk => XS.icmpNo X2.here hx rfl (hb hby at_154) rfl (feq c154).1 kk) ?_
    show own_Fin _ _ _ _ _ _ _ (T2.setTop (mkF m 157 #[.val (.int x0), .val (.int x1), .val (.int x2), .val (.int x3), .val (.int x4), .val (.int (own_cp x0)), .val (.int (own_el x0 x1)), .val (.int (own_el x0 x2)), .val (.int (own_el x0 x3)), .val (.int (own_el x0 x4)), .val (.ref o), .val (.ref bs), .val (.int q12), .val (.int q13), .val (.int q14), .val (.ref b1), .val (.int (1 : Int32)), .unset, .unset, .unset] []))
    refine own_of (fun _ kk => XS.aload X2.here hx rfl (hb hby at_157) rfl rfl kk) ?_
    show own_Fin _ _ _ _ _ _ _ (T2.setTop (mkF m 159 #[.val (.int x0), .val (.int x1), .val (.int x2), .val (.int x3), .val (.int x4), .val (.int (own_cp x0)), .val (.int (own_el x0 x1)), .val (.int (own_el x0 x2)), .val (.int (own_el x0 x3)), .val (.int (own_el x0 x4)), .val (.ref o), .val (.ref bs), .val (.int q12), .val (.int q13), .val (.int q14), .val (.ref b1), .val (.int (1 : Int32)), .unset, .unset, .unset] [(.ref b1)]))
    refine own_of (fun _ kk => XS.iload X2.here hx rfl (hb hby at_159) rfl kk) ?_
    show own_Fin _ _ _ _ _ _ _ (T2.setTop (mkF m 161 #[.val (.int x0), .val (.int x1), .val (.int x2), .val (.int x3), .val (.int x4), .val (.int (own_cp x0)), .val (.int (own_el x0 x1)), .val (.int (own_el x0 x2)), .val (.int (own_el x0 x3)), .val (.int (own_el x0 x4)), .val (.ref o), .val (.ref bs), .val (.int q12), .val (.int q13), .val (.int q14), .val (.ref b1), .val (.int (1 : Int32)), .unset, .unset, .unset] [(.int (1 : Int32)), (.ref b1)]))
    refine own_of (fun _ kk => XS.iinc X2.here hx rfl (hb hby at_161) rfl (l' := #[.val (.int x0), .val (.int x1), .val (.int x2), .val (.int x3), .val (.int x4), .val (.int (own_cp x0)), .val (.int (own_el x0 x1)), .val (.int (own_el x0 x2)), .val (.int (own_el x0 x3)), .val (.int (own_el x0 x4)), .val (.ref o), .val (.ref bs), .val (.int q12), .val (.int q13), .val (.int q14), .val (.ref b1), .val (.int (2 : Int32)), .unset, .unset, .unset]) rfl kk) ?_
    show own_Fin _ _ _ _ _ _ _ (T2.setTop (mkF m 164 #[.val (.int x0), .val (.int x1), .val (.int x2), .val (.int x3), .val (.int x4), .val (.int (own_cp x0)), .val (.int (own_el x0 x1)), .val (.int (own_el x0 x2)), .val (.int (own_el x0 x3)), .val (.int (own_el x0 x4)), .val (.ref o), .val (.ref bs), .val (.int q12), .val (.int q13), .val (.int q14), .val (.ref b1), .val (.int (2 : Int32)), .unset, .unset, .unset] [(.int (1 : Int32)), (.ref b1)]))
    refine own_of (fun _ kk => XS.iload X2.here hx rfl (hb hby at_164) rfl kk) ?_
    show own_Fin _ _ _ _ _ _ _ (T2.setTop (mkF m 166 #[.val (.int x0), .val (.int x1), .val (.int x2), .val (.int x3), .val (.int x4), .val (.int (own_cp x0)), .val (.int (own_el x0 x1)), .val (.int (own_el x0 x2)), .val (.int (own_el x0 x3)), .val (.int (own_el x0 x4)), .val (.ref o), .val (.ref bs), .val (.int q12), .val (.int q13), .val (.int q14), .val (.ref b1), .val (.int (2 : Int32)), .unset, .unset, .unset] [(.int q14), (.int (1 : Int32)), (.ref b1)]))
    refine own_iastore X2 hx hZ e2 A2 N2 ge_b1 (i := 1) (by decide) (by decide) (hb hby at_166) ?_
    intro T6 h6 l6 X6 N6 e6 W6 A6
    replace A6 : own_Arf Z h6 b1 .int 3 (fun j => if j = 1 then (.int q14) else (fun j => if j = 0 then (.int q12) else (fun _ => (.int (0 : Int32))) j) j) := A6
    have ZW6 : n0 ≤ h6.size := by rw [Wr.size W6]; exact ZW2
    replace Ox := Ox.wr W6 far_Ox_b1
    replace AS := AS.other W6 ne_bs_b1
    show own_Fin _ _ _ _ _ _ _ (T6.setTop (mkF m 167 #[.val (.int x0), .val (.int x1), .val (.int x2), .val (.int x3), .val (.int x4), .val (.int (own_cp x0)), .val (.int (own_el x0 x1)), .val (.int (own_el x0 x2)), .val (.int (own_el x0 x3)), .val (.int (own_el x0 x4)), .val (.ref o), .val (.ref bs), .val (.int q12), .val (.int q13), .val (.int q14), .val (.ref b1), .val (.int (2 : Int32)), .unset, .unset, .unset] []))
    refine own_of (fun _ kk => XS.iload X6.here hx rfl (hb hby at_167) rfl kk) ?_
    show own_Fin _ _ _ _ _ _ _ (T6.setTop (mkF m 169 #[.val (.int x0), .val (.int x1), .val (.int x2), .val (.int x3), .val (.int x4), .val (.int (own_cp x0)), .val (.int (own_el x0 x1)), .val (.int (own_el x0 x2)), .val (.int (own_el x0 x3)), .val (.int (own_el x0 x4)), .val (.ref o), .val (.ref bs), .val (.int q12), .val (.int q13), .val (.int q14), .val (.ref b1), .val (.int (2 : Int32)), .unset, .unset, .unset] [(.int q13)]))
    refine own_of (fun _ kk => XS.iload X6.here hx rfl (hb hby at_169) rfl kk) ?_
    show own_Fin _ _ _ _ _ _ _ (T6.setTop (mkF m 171 #[.val (.int x0), .val (.int x1), .val (.int x2), .val (.int x3), .val (.int x4), .val (.int (own_cp x0)), .val (.int (own_el x0 x1)), .val (.int (own_el x0 x2)), .val (.int (own_el x0 x3)), .val (.int (own_el x0 x4)), .val (.ref o), .val (.ref bs), .val (.int q12), .val (.int q13), .val (.int q14), .val (.ref b1), .val (.int (2 : Int32)), .unset, .unset, .unset] [(.int q14), (.int q13)]))
    by_cases c171 : q13 = q14
    · refine own_of (fun _ kk => XS.icmpYes X6.here hx rfl (pc0 := 171) (pc' := 184) rfl (hb hby at_171) rfl (teq c171).1 (by decide) (by decide) kk) ?_
      show own_Fin _ _ _ _ _ _ _ (T6.setTop (mkF m 184 #[.val (.int x0), .val (.int x1), .val (.int x2), .val (.int x3), .val (.int x4), .val (.int (own_cp x0)), .val (.int (own_el x0 x1)), .val (.int (own_el x0 x2)), .val (.int (own_el x0 x3)), .val (.int (own_el x0 x4)), .val (.ref o), .val (.ref bs), .val (.int q12), .val (.int q13), .val (.int q14), .val (.ref b1), .val (.int (2 : Int32)), .unset, .unset, .unset] []))
      refine own_of (fun _ kk => XS.aload X6.here hx rfl (hb hby at_184) rfl rfl kk) ?_
      show own_Fin _ _ _ _ _ _ _ (T6.setTop (mkF m 186 #[.val (.int x0), .val (.int x1), .val (.int x2), .val (.int x3), .val (.int x4), .val (.int (own_cp x0)), .val (.int (own_el x0 x1)), .val (.int (own_el x0 x2)), .val (.int (own_el x0 x3)), .val (.int (own_el x0 x4)), .val (.ref o), .val (.ref bs), .val (.int q12), .val (.int q13), .val (.int q14), .val (.ref b1), .val (.int (2 : Int32)), .unset, .unset, .unset] [(.ref bs)]))
      refine own_of (fun _ kk => XS.aload X6.here hx rfl (hb hby at_186) rfl rfl kk) ?_
      show own_Fin _ _ _ _ _ _ _ (T6.setTop (mkF m 188 #[.val (.int x0), .val (.int x1), .val (.int x2), .val (.int x3), .val (.int x4), .val (.int (own_cp x0)), .val (.int (own_el x0 x1)), .val (.int (own_el x0 x2)), .val (.int (own_el x0 x3)), .val (.int (own_el x0 x4)), .val (.ref o), .val (.ref bs), .val (.int q12), .val (.int q13), .val (.int q14), .val (.ref b1), .val (.int (2 : Int32)), .unset, .unset, .unset] [(.ref b1), (.ref bs)]))
      refine own_of (fun _ kk => XS.iload X6.here hx rfl (hb hby at_188) rfl kk) ?_
      show own_Fin _ _ _ _ _ _ _ (T6.setTop (mkF m 190 #[.val (.int x0), .val (.int x1), .val (.int x2), .val (.int x3), .val (.int x4), .val (.int (own_cp x0)), .val (.int (own_el x0 x1)), .val (.int (own_el x0 x2)), .val (.int (own_el x0 x3)), .val (.int (own_el x0 x4)), .val (.ref o), .val (.ref bs), .val (.int q12), .val (.int q13), .val (.int q14), .val (.ref b1), .val (.int (2 : Int32)), .unset, .unset, .unset] [(.int (2 : Int32)), (.ref b1), (.ref bs)]))
      obtain ⟨hk, fg⟩ := own_fgft hR hn hlo hhi hmid c154 c171
      subst hk
      refine own_callS X6 hx hZ hown (hw _ (List.mem_of_getElem? (i := 68) rfl)) (hw _ (List.mem_of_getElem? (i := 69) rfl)) (hw _ (List.mem_of_getElem? (i := 70) rfl)) (hw _ (List.mem_of_getElem? (i := 71) rfl)) (by decide) e6 (argsL := [(.ref bs), (.ref b1), (.int (2 : Int32))]) (met15_2 l Z a0 hw bs b1 (2 : Int32) R (fun j => (if j = 1 then q14 else (if j = 0 then q12 else (0 : Int32)))) h6 n0 ZW6 rfl AS (A6.congr fun j _ => by first | rfl | (dsimp only; (repeat' split) <;> first | rfl | (exfalso; omega))) fg) (W := 0) (by decide) (by decide) (by decide) (by decide) (by rw [hml]; rfl) pd_12 rfl (rest := []) rfl (Nat.le_of_eq rfl) (hb hby at_190) ?_
      intro v7 T7 h7 L7 X7 e7 q7
      obtain ⟨rfl, qh7, rfl⟩ := q7
      rw [qh7] at e7
      have N7 := Fr.app N6 (Fr.nil n0)
      show own_Fin _ _ _ _ _ _ _ (T7.setTop (mkF m 193 #[.val (.int x0), .val (.int x1), .val (.int x2), .val (.int x3), .val (.int x4), .val (.int (own_cp x0)), .val (.int (own_el x0 x1)), .val (.int (own_el x0 x2)), .val (.int (own_el x0 x3)), .val (.int (own_el x0 x4)), .val (.ref o), .val (.ref bs), .val (.int q12), .val (.int q13), .val (.int q14), .val (.ref b1), .val (.int (2 : Int32)), .unset, .unset, .unset] [(.int (1 : Int32))]))
      refine own_of (fun _ kk => XS.ifYes X7.here hx rfl (pc0 := 193) (pc' := 198) rfl (hb hby at_193) rfl ((if0 _ _).trans (feq (by decide : ¬ ((1 : Int32) = (0 : Int32)))).2) (by decide) (by decide) kk) ?_
      show own_Fin _ _ _ _ _ _ _ (T7.setTop (mkF m 198 #[.val (.int x0), .val (.int x1), .val (.int x2), .val (.int x3), .val (.int x4), .val (.int (own_cp x0)), .val (.int (own_el x0 x1)), .val (.int (own_el x0 x2)), .val (.int (own_el x0 x3)), .val (.int (own_el x0 x4)), .val (.ref o), .val (.ref bs), .val (.int q12), .val (.int q13), .val (.int q14), .val (.ref b1), .val (.int (2 : Int32)), .unset, .unset, .unset] []))
      exact own_p2 l Z a0 hw x0 x1 x2 x3 x4 o a1 a2 a3 V H' D' ee d' bs q12 q13 q14 b1 (2 : Int32) n0 hx hby hml hown hZ hret hlk T7 _ h6 (own_wide X7 (by decide) (by decide)) N7 ZW6 e7 Ox Ix
    · refine own_of (fun _ kk => XS.icmpNo X6.here hx rfl (hb hby at_171) rfl (feq c171).1 kk) ?_
      show own_Fin _ _ _ _ _ _ _ (T6.setTop (mkF m 174 #[.val (.int x0), .val (.int x1), .val (.int x2), .val (.int x3), .val (.int x4), .val (.int (own_cp x0)), .val (.int (own_el x0 x1)), .val (.int (own_el x0 x2)), .val (.int (own_el x0 x3)), .val (.int (own_el x0 x4)), .val (.ref o), .val (.ref bs), .val (.int q12), .val (.int q13), .val (.int q14), .val (.ref b1), .val (.int (2 : Int32)), .unset, .unset, .unset] []))
      refine own_of (fun _ kk => XS.aload X6.here hx rfl (hb hby at_174) rfl rfl kk) ?_
      show own_Fin _ _ _ _ _ _ _ (T6.setTop (mkF m 176 #[.val (.int x0), .val (.int x1), .val (.int x2), .val (.int x3), .val (.int x4), .val (.int (own_cp x0)), .val (.int (own_el x0 x1)), .val (.int (own_el x0 x2)), .val (.int (own_el x0 x3)), .val (.int (own_el x0 x4)), .val (.ref o), .val (.ref bs), .val (.int q12), .val (.int q13), .val (.int q14), .val (.ref b1), .val (.int (2 : Int32)), .unset, .unset, .unset] [(.ref b1)]))
      refine own_of (fun _ kk => XS.iload X6.here hx rfl (hb hby at_176) rfl kk) ?_
      show own_Fin _ _ _ _ _ _ _ (T6.setTop (mkF m 178 #[.val (.int x0), .val (.int x1), .val (.int x2), .val (.int x3), .val (.int x4), .val (.int (own_cp x0)), .val (.int (own_el x0 x1)), .val (.int (own_el x0 x2)), .val (.int (own_el x0 x3)), .val (.int (own_el x0 x4)), .val (.ref o), .val (.ref bs), .val (.int q12), .val (.int q13), .val (.int q14), .val (.ref b1), .val (.int (2 : Int32)), .unset, .unset, .unset] [(.int (2 : Int32)), (.ref b1)]))
      refine own_of (fun _ kk => XS.iinc X6.here hx rfl (hb hby at_178) rfl (l' := #[.val (.int x0), .val (.int x1), .val (.int x2), .val (.int x3), .val (.int x4), .val (.int (own_cp x0)), .val (.int (own_el x0 x1)), .val (.int (own_el x0 x2)), .val (.int (own_el x0 x3)), .val (.int (own_el x0 x4)), .val (.ref o), .val (.ref bs), .val (.int q12), .val (.int q13), .val (.int q14), .val (.ref b1), .val (.int (3 : Int32)), .unset, .unset, .unset]) rfl kk) ?_
      show own_Fin _ _ _ _ _ _ _ (T6.setTop (mkF m 181 #[.val (.int x0), .val (.int x1), .val (.int x2), .val (.int x3), .val (.int x4), .val (.int (own_cp x0)), .val (.int (own_el x0 x1)), .val (.int (own_el x0 x2)), .val (.int (own_el x0 x3)), .val (.int (own_el x0 x4)), .val (.ref o), .val (.ref bs), .val (.int q12), .val (.int q13), .val (.int q14), .val (.ref b1), .val (.int (3 : Int32)), .unset, .unset, .unset] [(.int (2 : Int32)), (.ref b1)]))
      refine own_of (fun _ kk => XS.iload X6.here hx rfl (hb hby at_181) rfl kk) ?_
      show own_Fin _ _ _ _ _ _ _ (T6.setTop (mkF m 183 #[.val (.int x0), .val (.int x1), .val (.int x2), .val (.int x3), .val (.int x4), .val (.int (own_cp x0)), .val (.int (own_el x0 x1)), .val (.int (own_el x0 x2)), .val (.int (own_el x0 x3)), .val (.int (own_el x0 x4)), .val (.ref o), .val (.ref bs), .val (.int q12), .val (.int q13), .val (.int q14), .val (.ref b1), .val (.int (3 : Int32)), .unset, .unset, .unset] [(.int q13), (.int (2 : Int32)), (.ref b1)]))
      refine own_iastore X6 hx hZ e6 A6 N6 ge_b1 (i := 2) (by decide) (by decide) (hb hby at_183) ?_
      intro T8 h8 l8 X8 N8 e8 W8 A8
      replace A8 : own_Arf Z h8 b1 .int 3 (fun j => if j = 2 then (.int q13) else (fun j => if j = 1 then (.int q14) else (fun j => if j = 0 then (.int q12) else (fun _ => (.int (0 : Int32))) j) j) j) := A8
      have ZW8 : n0 ≤ h8.size := by rw [Wr.size W8]; exact ZW6
      replace Ox := Ox.wr W8 far_Ox_b1
      replace AS := AS.other W8 ne_bs_b1
      show own_Fin _ _ _ _ _ _ _ (T8.setTop (mkF m 184 #[.val (.int x0), .val (.int x1), .val (.int x2), .val (.int x3), .val (.int x4), .val (.int (own_cp x0)), .val (.int (own_el x0 x1)), .val (.int (own_el x0 x2)), .val (.int (own_el x0 x3)), .val (.int (own_el x0 x4)), .val (.ref o), .val (.ref bs), .val (.int q12), .val (.int q13), .val (.int q14), .val (.ref b1), .val (.int (3 : Int32)), .unset, .unset, .unset] []))
      refine own_of (fun _ kk => XS.aload X8.here hx rfl (hb hby at_184) rfl rfl kk) ?_
      show own_Fin _ _ _ _ _ _ _ (T8.setTop (mkF m 186 #[.val (.int x0), .val (.int x1), .val (.int x2), .val (.int x3), .val (.int x4), .val (.int (own_cp x0)), .val (.int (own_el x0 x1)), .val (.int (own_el x0 x2)), .val (.int (own_el x0 x3)), .val (.int (own_el x0 x4)), .val (.ref o), .val (.ref bs), .val (.int q12), .val (.int q13), .val (.int q14), .val (.ref b1), .val (.int (3 : Int32)), .unset, .unset, .unset] [(.ref bs)]))
      refine own_of (fun _ kk => XS.aload X8.here hx rfl (hb hby at_186) rfl rfl kk) ?_
      show own_Fin _ _ _ _ _ _ _ (T8.setTop (mkF m 188 #[.val (.int x0), .val (.int x1), .val (.int x2), .val (.int x3), .val (.int x4), .val (.int (own_cp x0)), .val (.int (own_el x0 x1)), .val (.int (own_el x0 x2)), .val (.int (own_el x0 x3)), .val (.int (own_el x0 x4)), .val (.ref o), .val (.ref bs), .val (.int q12), .val (.int q13), .val (.int q14), .val (.ref b1), .val (.int (3 : Int32)), .unset, .unset, .unset] [(.ref b1), (.ref bs)]))
      refine own_of (fun _ kk => XS.iload X8.here hx rfl (hb hby at_188) rfl kk) ?_
      show own_Fin _ _ _ _ _ _ _ (T8.setTop (mkF m 190 #[.val (.int x0), .val (.int x1), .val (.int x2), .val (.int x3), .val (.int x4), .val (.int (own_cp x0)), .val (.int (own_el x0 x1)), .val (.int (own_el x0 x2)), .val (.int (own_el x0 x3)), .val (.int (own_el x0 x4)), .val (.ref o), .val (.ref bs), .val (.int q12), .val (.int q13), .val (.int q14), .val (.ref b1), .val (.int (3 : Int32)), .unset, .unset, .unset] [(.int (3 : Int32)), (.ref b1), (.ref bs)]))
      obtain ⟨hk, fg⟩ := own_fgff hR hn hlo hhi hmid c154 c171
      subst hk
      refine own_callS X8 hx hZ hown (hw _ (List.mem_of_getElem? (i := 68) rfl)) (hw _ (List.mem_of_getElem? (i := 69) rfl)) (hw _ (List.mem_of_getElem? (i := 70) rfl)) (hw _ (List.mem_of_getElem? (i := 71) rfl)) (by decide) e8 (argsL := [(.ref bs), (.ref b1), (.int (3 : Int32))]) (met15_3 l Z a0 hw bs b1 (3 : Int32) R (fun j => (if j = 2 then q13 else (if j = 1 then q14 else (if j = 0 then q12 else (0 : Int32))))) h8 n0 ZW8 rfl AS (A8.congr fun j _ => by first | rfl | (dsimp only; (repeat' split) <;> first | rfl | (exfalso; omega))) fg) (W := 0) (by decide) (by decide) (by decide) (by decide) (by rw [hml]; rfl) pd_12 rfl (rest := []) rfl (Nat.le_of_eq rfl) (hb hby at_190) ?_
      intro v9 T9 h9 L9 X9 e9 q9
      obtain ⟨rfl, qh9, rfl⟩ := q9
      rw [qh9] at e9
      have N9 := Fr.app N8 (Fr.nil n0)
      show own_Fin _ _ _ _ _ _ _ (T9.setTop (mkF m 193 #[.val (.int x0), .val (.int x1), .val (.int x2), .val (.int x3), .val (.int x4), .val (.int (own_cp x0)), .val (.int (own_el x0 x1)), .val (.int (own_el x0 x2)), .val (.int (own_el x0 x3)), .val (.int (own_el x0 x4)), .val (.ref o), .val (.ref bs), .val (.int q12), .val (.int q13), .val (.int q14), .val (.ref b1), .val (.int (3 : Int32)), .unset, .unset, .unset] [(.int (1 : Int32))]))
      refine own_of (fun _ kk => XS.ifYes X9.here hx rfl (pc0 := 193) (pc' := 198) rfl (hb hby at_193) rfl ((if0 _ _).trans (feq (by decide : ¬ ((1 : Int32) = (0 : Int32)))).2) (by decide) (by decide) kk) ?_
      show own_Fin _ _ _ _ _ _ _ (T9.setTop (mkF m 198 #[.val (.int x0), .val (.int x1), .val (.int x2), .val (.int x3), .val (.int x4), .val (.int (own_cp x0)), .val (.int (own_el x0 x1)), .val (.int (own_el x0 x2)), .val (.int (own_el x0 x3)), .val (.int (own_el x0 x4)), .val (.ref o), .val (.ref bs), .val (.int q12), .val (.int q13), .val (.int q14), .val (.ref b1), .val (.int (3 : Int32)), .unset, .unset, .unset] []))
      exact own_p2 l Z a0 hw x0 x1 x2 x3 x4 o a1 a2 a3 V H' D' ee d' bs q12 q13 q14 b1 (3 : Int32) n0 hx hby hml hown hZ hret hlk T9 _ h8 (own_wide X9 (by decide) (by decide)) N9 ZW8 e9 Ox Ix
set_option maxRecDepth 65536 in
set_option maxHeartbeats 40000000 in
theorem own_p88 (l : Launch) (Z : State) (a0 : Array Value) (hw : ∀ d ∈ tables_1, d.before a0 Z = true) (x0 : Int32) (x1 : Int32) (x2 : Int32) (x3 : Int32) (x4 : Int32) (o : Addr) (a1 : Addr) (a2 : Addr) (a3 : Addr) (V : Nat → Int32) (H' : Nat → Int64) (D' : Nat → Int32) (ee : Nat → Nat) (d' : Nat → Nat) (bs : Addr) (R : Nat → Int32) (n3 : Nat) (n0 : Nat) {p : Program} {e : Env} {s : State} {m : MethodId} {args : Array Value} {below : List Frame} {meth : Method} {c : Code} (hx : p.tables.exec = Jvm.exec) (hby : c.code = code) (hml : c.maxLocals = 20) (hown : s.vm.findClass "com/example/shardloom/shardloom/VertexSetAddPinLaw" = some m.cls) (hZ : Z.Warmed39 s.vm) (hret : meth.sig.returnType = ret) (hlk : meth.locks = false)
    (T0 : State) (locs : List Loc) (h0 : Heap) (X0 : Stand p l e room_1 s m args below meth c T0 locs (6) (230)) (N0 : Fr n0 locs) (Z0 : n0 ≤ h0.size) (e0 : T0.heap = h0) (Ox : own_VS Z h0 n0 o (own_cN x0) (own_wN x0) 0 0 a1 a2 a3 V H' D') (Ix : own_Inv (own_cN x0) (own_wN x0) 0 0 ee d' V D' H') (gbs : n0 ≤ bs) (AS : own_Arf Z h0 bs .int n3 (fun j => .int (R j))) (hR : ∀ t, t < n3 → (R t).toInt = (own_T (own_eN x0 x1) (own_eN x0 x2) (own_eN x0 x3) t : Int)) (hn : (own_mid (own_eN x0 x1) (own_eN x0 x2) (own_eN x0 x3) = own_lo (own_eN x0 x1) (own_eN x0 x2) (own_eN x0 x3) → own_hi (own_eN x0 x1) (own_eN x0 x2) (own_eN x0 x3) = own_mid (own_eN x0 x1) (own_eN x0 x2) (own_eN x0 x3) → n3 = 1) ∧ (own_mid (own_eN x0 x1) (own_eN x0 x2) (own_eN x0 x3) = own_lo (own_eN x0 x1) (own_eN x0 x2) (own_eN x0 x3) → ¬ own_hi (own_eN x0 x1) (own_eN x0 x2) (own_eN x0 x3) = own_mid (own_eN x0 x1) (own_eN x0 x2) (own_eN x0 x3) → n3 = 2) ∧ (¬ own_mid (own_eN x0 x1) (own_eN x0 x2) (own_eN x0 x3) = own_lo (own_eN x0 x1) (own_eN x0 x2) (own_eN x0 x3) → own_hi (own_eN x0 x1) (own_eN x0 x2) (own_eN x0 x3) = own_mid (own_eN x0 x1) (own_eN x0 x2) (own_eN x0 x3) → n3 = 2) ∧ (¬ own_mid (own_eN x0 x1) (own_eN x0 x2) (own_eN x0 x3) = own_lo (own_eN x0 x1) (own_eN x0 x2) (own_eN x0 x3) → ¬ own_hi (own_eN x0 x1) (own_eN x0 x2) (own_eN x0 x3) = own_mid (own_eN x0 x1) (own_eN x0 x2) (own_eN x0 x3) → n3 = 3)) : own_Fin p e below s (room_1.cells) (room_1.slots) (fun v h L => v = some (.int 1) ∧ Fr n0 L) (T0.setTop (mkF m 88 #[.val (.int x0), .val (.int x1), .val (.int x2), .val (.int x3), .val (.int x4), .val (.int (own_cp x0)), .val (.int (own_el x0 x1)), .val (.int (own_el x0 x2)), .val (.int (own_el x0 x3)), .val (.int (own_el x0 x4)), .val (.ref o), .val (.ref bs), .unset, .unset, .unset, .unset, .unset, .unset, .unset, .unset] [])) := by
  have hlo := own_minI (own_eN1 x0 x1).1 (own_minI (own_eN1 x0 x2).1 (own_eN1 x0 x3).1)
  have hhi := own_maxI (own_eN1 x0 x1).1 (own_maxI (own_eN1 x0 x2).1 (own_eN1 x0 x3).1)
  have hmid := own_midI (own_eN1 x0 x1).1 (own_eN1 x0 x2).1 (own_eN1 x0 x3).1 hlo hhi (by have := (own_eN1 x0 x1).2; have := (own_cN1 x0).2.2; omega) (by have := (own_eN1 x0 x2).2; have := (own_cN1 x0).2.2; omega) (by have := (own_eN1 x0 x3).2; have := (own_cN1 x0).2.2; omega) rfl rfl
  show own_Fin _ _ _ _ _ _ _ (T0.setTop (mkF m 88 #[.val (.int x0), .val (.int x1), .val (.int x2), .val (.int x3), .val (.int x4), .val (.int (own_cp x0)), .val (.int (own_el x0 x1)), .val (.int (own_el x0 x2)), .val (.int (own_el x0 x3)), .val (.int (own_el x0 x4)), .val (.ref o), .val (.ref bs), .unset, .unset, .unset, .unset, .unset, .unset, .unset, .unset] []))
  refine own_of (fun _ kk => XS.iload X0.here hx rfl (hb hby at_88) rfl kk) ?_
  show own_Fin _ _ _ _ _ _ _ (T0.setTop (mkF m 90 #[.val (.int x0), .val (.int x1), .val (.int x2), .val (.int x3), .val (.int x4), .val (.int (own_cp x0)), .val (.int (own_el x0 x1)), .val (.int (own_el x0 x2)), .val (.int (own_el x0 x3)), .val (.int (own_el x0 x4)), .val (.ref o), .val (.ref bs), .unset, .unset, .unset, .unset, .unset, .unset, .unset, .unset] [(.int (own_el x0 x1))]))
  refine own_of (fun _ kk => XS.iload X0.here hx rfl (hb hby at_90) rfl kk) ?_
  show own_Fin _ _ _ _ _ _ _ (T0.setTop (mkF m 92 #[.val (.int x0), .val (.int x1), .val (.int x2), .val (.int x3), .val (.int x4), .val (.int (own_cp x0)), .val (.int (own_el x0 x1)), .val (.int (own_el x0 x2)), .val (.int (own_el x0 x3)), .val (.int (own_el x0 x4)), .val (.ref o), .val (.ref bs), .unset, .unset, .unset, .unset, .unset, .unset, .unset, .unset] [(.int (own_el x0 x2)), (.int (own_el x0 x1))]))
  refine own_of (fun _ kk => XS.iload X0.here hx rfl (hb hby at_92) rfl kk) ?_
  show own_Fin _ _ _ _ _ _ _ (T0.setTop (mkF m 94 #[.val (.int x0), .val (.int x1), .val (.int x2), .val (.int x3), .val (.int x4), .val (.int (own_cp x0)), .val (.int (own_el x0 x1)), .val (.int (own_el x0 x2)), .val (.int (own_el x0 x3)), .val (.int (own_el x0 x4)), .val (.ref o), .val (.ref bs), .unset, .unset, .unset, .unset, .unset, .unset, .unset, .unset] [(.int (own_el x0 x3)), (.int (own_el x0 x2)), (.int (own_el x0 x1))]))
  refine own_callP X0 hx hZ hown (hw _ (List.mem_of_getElem? (i := 61) rfl)) (hw _ (List.mem_of_getElem? (i := 62) rfl)) (hw _ (List.mem_of_getElem? (i := 63) rfl)) (hw _ (List.mem_of_getElem? (i := 64) rfl)) (by decide) e0 (argsL := [(.int (own_el x0 x2)), (.int (own_el x0 x3))]) (rv := (.int (own_f13 (own_el x0 x2) (own_el x0 x3)))) (met13 l Z a0 hw (own_el x0 x2) (own_el x0 x3) h0) (W := 1) (by decide) (by decide) (by decide) (by decide) (by rw [hml]; rfl) pd_4 rfl (rest := [(.int (own_el x0 x1))]) rfl (Nat.le_of_eq rfl) (hb hby at_94) ?_
  intro T1 X1 e1
  show own_Fin _ _ _ _ _ _ _ (T1.setTop (mkF m 97 #[.val (.int x0), .val (.int x1), .val (.int x2), .val (.int x3), .val (.int x4), .val (.int (own_cp x0)), .val (.int (own_el x0 x1)), .val (.int (own_el x0 x2)), .val (.int (own_el x0 x3)), .val (.int (own_el x0 x4)), .val (.ref o), .val (.ref bs), .unset, .unset, .unset, .unset, .unset, .unset, .unset, .unset] [(.int (own_f13 (own_el x0 x2) (own_el x0 x3))), (.int (own_el x0 x1))]))
  refine own_callP X1 hx hZ hown (hw _ (List.mem_of_getElem? (i := 61) rfl)) (hw _ (List.mem_of_getElem? (i := 62) rfl)) (hw _ (List.mem_of_getElem? (i := 63) rfl)) (hw _ (List.mem_of_getElem? (i := 64) rfl)) (by decide) e1 (argsL := [(.int (own_el x0 x1)), (.int (own_f13 (own_el x0 x2) (own_el x0 x3)))]) (rv := (.int (own_f13 (own_el x0 x1) (own_f13 (own_el x0 x2) (own_el x0 x3))))) (met13 l Z a0 hw (own_el x0 x1) (own_f13 (own_el x0 x2) (own_el x0 x3)) h0) (W := 0) (by decide) (by decide) (by decide) (by decide) (by rw [hml]; rfl) pd_4 rfl (rest := []) rfl (Nat.le_of_eq rfl) (hb hby at_97) ?_
  intro T2 X2 e2
  show own_Fin _ _ _ _ _ _ _ (T2.setTop (mkF m 100 #[.val (.int x0), .val (.int x1), .val (.int x2), .val (.int x3), .val (.int x4), .val (.int (own_cp x0)), .val (.int (own_el x0 x1)), .val (.int (own_el x0 x2)), .val (.int (own_el x0 x3)), .val (.int (own_el x0 x4)), .val (.ref o), .val (.ref bs), .unset, .unset, .unset, .unset, .unset, .unset, .unset, .unset] [(.int (own_f13 (own_el x0 x1) (own_f13 (own_el x0 x2) (own_el x0 x3))))]))
  refine own_of (fun _ kk => XS.istore X2.here hx rfl (hb hby at_100) rfl (l' := #[.val (.int x0), .val (.int x1), .val (.int x2), .val (.int x3), .val (.int x4), .val (.int (own_cp x0)), .val (.int (own_el x0 x1)), .val (.int (own_el x0 x2)), .val (.int (own_el x0 x3)), .val (.int (own_el x0 x4)), .val (.ref o), .val (.ref bs), .val (.int (own_f13 (own_el x0 x1) (own_f13 (own_el x0 x2) (own_el x0 x3)))), .unset, .unset, .unset, .unset, .unset, .unset, .unset]) rfl kk) ?_
  show own_Fin _ _ _ _ _ _ _ (T2.setTop (mkF m 102 #[.val (.int x0), .val (.int x1), .val (.int x2), .val (.int x3), .val (.int x4), .val (.int (own_cp x0)), .val (.int (own_el x0 x1)), .val (.int (own_el x0 x2)), .val (.int (own_el x0 x3)), .val (.int (own_el x0 x4)), .val (.ref o), .val (.ref bs), .val (.int (own_f13 (own_el x0 x1) (own_f13 (own_el x0 x2) (own_el x0 x3)))), .unset, .unset, .unset, .unset, .unset, .unset, .unset] []))
  refine own_of (fun _ kk => XS.iload X2.here hx rfl (hb hby at_102) rfl kk) ?_
  show own_Fin _ _ _ _ _ _ _ (T2.setTop (mkF m 104 #[.val (.int x0), .val (.int x1), .val (.int x2), .val (.int x3), .val (.int x4), .val (.int (own_cp x0)), .val (.int (own_el x0 x1)), .val (.int (own_el x0 x2)), .val (.int (own_el x0 x3)), .val (.int (own_el x0 x4)), .val (.ref o), .val (.ref bs), .val (.int (own_f13 (own_el x0 x1) (own_f13 (own_el x0 x2) (own_el x0 x3)))), .unset, .unset, .unset, .unset, .unset, .unset, .unset] [(.int (own_el x0 x1))]))
  refine own_of (fun _ kk => XS.iload X2.here hx rfl (hb hby at_104) rfl kk) ?_
  show own_Fin _ _ _ _ _ _ _ (T2.setTop (mkF m 106 #[.val (.int x0), .val (.int x1), .val (.int x2), .val (.int x3), .val (.int x4), .val (.int (own_cp x0)), .val (.int (own_el x0 x1)), .val (.int (own_el x0 x2)), .val (.int (own_el x0 x3)), .val (.int (own_el x0 x4)), .val (.ref o), .val (.ref bs), .val (.int (own_f13 (own_el x0 x1) (own_f13 (own_el x0 x2) (own_el x0 x3)))), .unset, .unset, .unset, .unset, .unset, .unset, .unset] [(.int (own_el x0 x2)), (.int (own_el x0 x1))]))
  refine own_of (fun _ kk => XS.iload X2.here hx rfl (hb hby at_106) rfl kk) ?_
  show own_Fin _ _ _ _ _ _ _ (T2.setTop (mkF m 108 #[.val (.int x0), .val (.int x1), .val (.int x2), .val (.int x3), .val (.int x4), .val (.int (own_cp x0)), .val (.int (own_el x0 x1)), .val (.int (own_el x0 x2)), .val (.int (own_el x0 x3)), .val (.int (own_el x0 x4)), .val (.ref o), .val (.ref bs), .val (.int (own_f13 (own_el x0 x1) (own_f13 (own_el x0 x2) (own_el x0 x3)))), .unset, .unset, .unset, .unset, .unset, .unset, .unset] [(.int (own_el x0 x3)), (.int (own_el x0 x2)), (.int (own_el x0 x1))]))
  refine own_callP X2 hx hZ hown (hw _ (List.mem_of_getElem? (i := 65) rfl)) (hw _ (List.mem_of_getElem? (i := 66) rfl)) (hw _ (List.mem_of_getElem? (i := 63) rfl)) (hw _ (List.mem_of_getElem? (i := 67) rfl)) (by decide) e2 (argsL := [(.int (own_el x0 x2)), (.int (own_el x0 x3))]) (rv := (.int (own_f14 (own_el x0 x2) (own_el x0 x3)))) (met14 l Z a0 hw (own_el x0 x2) (own_el x0 x3) h0) (W := 1) (by decide) (by decide) (by decide) (by decide) (by rw [hml]; rfl) pd_4 rfl (rest := [(.int (own_el x0 x1))]) rfl (Nat.le_of_eq rfl) (hb hby at_108) ?_
  intro T3 X3 e3
  show own_Fin _ _ _ _ _ _ _ (T3.setTop (mkF m 111 #[.val (.int x0), .val (.int x1), .val (.int x2), .val (.int x3), .val (.int x4), .val (.int (own_cp x0)), .val (.int (own_el x0 x1)), .val (.int (own_el x0 x2)), .val (.int (own_el x0 x3)), .val (.int (own_el x0 x4)), .val (.ref o), .val (.ref bs), .val (.int (own_f13 (own_el x0 x1) (own_f13 (own_el x0 x2) (own_el x0 x3)))), .unset, .unset, .unset, .unset, .unset, .unset, .unset] [(.int (own_f14 (own_el x0 x2) (own_el x0 x3))), (.int (own_el x0 x1))]))
  refine own_callP X3 hx hZ hown (hw _ (List.mem_of_getElem? (i := 65) rfl)) (hw _ (List.mem_of_getElem? (i := 66) rfl)) (hw _ (List.mem_of_getElem? (i := 63) rfl)) (hw _ (List.mem_of_getElem? (i := 67) rfl)) (by decide) e3 (argsL := [(.int (own_el x0 x1)), (.int (own_f14 (own_el x0 x2) (own_el x0 x3)))]) (rv := (.int (own_f14 (own_el x0 x1) (own_f14 (own_el x0 x2) (own_el x0 x3))))) (met14 l Z a0 hw (own_el x0 x1) (own_f14 (own_el x0 x2) (own_el x0 x3)) h0) (W := 0) (by decide) (by decide) (by decide) (by decide) (by rw [hml]; rfl) pd_4 rfl (rest := []) rfl (Nat.le_of_eq rfl) (hb hby at_111) ?_
  intro T4 X4 e4
  show own_Fin _ _ _ _ _ _ _ (T4.setTop (mkF m 114 #[.val (.int x0), .val (.int x1), .val (.int x2), .val (.int x3), .val (.int x4), .val (.int (own_cp x0)), .val (.int (own_el x0 x1)), .val (.int (own_el x0 x2)), .val (.int (own_el x0 x3)), .val (.int (own_el x0 x4)), .val (.ref o), .val (.ref bs), .val (.int (own_f13 (own_el x0 x1) (own_f13 (own_el x0 x2) (own_el x0 x3)))), .unset, .unset, .unset, .unset, .unset, .unset, .unset] [(.int (own_f14 (own_el x0 x1) (own_f14 (own_el x0 x2) (own_el x0 x3))))]))
  refine own_of (fun _ kk => XS.istore X4.here hx rfl (hb hby at_114) rfl (l' := #[.val (.int x0), .val (.int x1), .val (.int x2), .val (.int x3), .val (.int x4), .val (.int (own_cp x0)), .val (.int (own_el x0 x1)), .val (.int (own_el x0 x2)), .val (.int (own_el x0 x3)), .val (.int (own_el x0 x4)), .val (.ref o), .val (.ref bs), .val (.int (own_f13 (own_el x0 x1) (own_f13 (own_el x0 x2) (own_el x0 x3)))), .val (.int (own_f14 (own_el x0 x1) (own_f14 (own_el x0 x2) (own_el x0 x3)))), .unset, .unset, .unset, .unset, .unset, .unset]) rfl kk) ?_
  show own_Fin _ _ _ _ _ _ _ (T4.setTop (mkF m 116 #[.val (.int x0), .val (.int x1), .val (.int x2), .val (.int x3), .val (.int x4), .val (.int (own_cp x0)), .val (.int (own_el x0 x1)), .val (.int (own_el x0 x2)), .val (.int (own_el x0 x3)), .val (.int (own_el x0 x4)), .val (.ref o), .val (.ref bs), .val (.int (own_f13 (own_el x0 x1) (own_f13 (own_el x0 x2) (own_el x0 x3)))), .val (.int (own_f14 (own_el x0 x1) (own_f14 (own_el x0 x2) (own_el x0 x3)))), .unset, .unset, .unset, .unset, .unset, .unset] []))
  refine own_of (fun _ kk => XS.iload X4.here hx rfl (hb hby at_116) rfl kk) ?_
  show own_Fin _ _ _ _ _ _ _ (T4.setTop (mkF m 118 #[.val (.int x0), .val (.int x1), .val (.int x2), .val (.int x3), .val (.int x4), .val (.int (own_cp x0)), .val (.int (own_el x0 x1)), .val (.int (own_el x0 x2)), .val (.int (own_el x0 x3)), .val (.int (own_el x0 x4)), .val (.ref o), .val (.ref bs), .val (.int (own_f13 (own_el x0 x1) (own_f13 (own_el x0 x2) (own_el x0 x3)))), .val (.int (own_f14 (own_el x0 x1) (own_f14 (own_el x0 x2) (own_el x0 x3)))), .unset, .unset, .unset, .unset, .unset, .unset] [(.int (own_el x0 x1))]))
  refine own_of (fun _ kk => XS.iload X4.here hx rfl (hb hby at_118) rfl kk) ?_
  show own_Fin _ _ _ _ _ _ _ (T4.setTop (mkF m 120 #[.val (.int x0), .val (.int x1), .val (.int x2), .val (.int x3), .val (.int x4), .val (.int (own_cp x0)), .val (.int (own_el x0 x1)), .val (.int (own_el x0 x2)), .val (.int (own_el x0 x3)), .val (.int (own_el x0 x4)), .val (.ref o), .val (.ref bs), .val (.int (own_f13 (own_el x0 x1) (own_f13 (own_el x0 x2) (own_el x0 x3)))), .val (.int (own_f14 (own_el x0 x1) (own_f14 (own_el x0 x2) (own_el x0 x3)))), .unset, .unset, .unset, .unset, .unset, .unset] [(.int (own_el x0 x2)), (.int (own_el x0 x1))]))
  refine own_of (fun _ kk => XS.iadd X4.here hx rfl (hb hby at_120) rfl kk) ?_
  show own_Fin _ _ _ _ _ _ _ (T4.setTop (mkF m 121 #[.val (.int x0), .val (.int x1), .val (.int x2), .val (.int x3), .val (.int x4), .val (.int (own_cp x0)), .val (.int (own_el x0 x1)), .val (.int (own_el x0 x2)), .val (.int (own_el x0 x3)), .val (.int (own_el x0 x4)), .val (.ref o), .val (.ref bs), .val (.int (own_f13 (own_el x0 x1) (own_f13 (own_el x0 x2) (own_el x0 x3)))), .val (.int (own_f14 (own_el x0 x1) (own_f14 (own_el x0 x2) (own_el x0 x3)))), .unset, .unset, .unset, .unset, .unset, .unset] [(.int ((own_el x0 x1) + (own_el x0 x2)))]))
  refine own_of (fun _ kk => XS.iload X4.here hx rfl (hb hby at_121) rfl kk) ?_
  show own_Fin _ _ _ _ _ _ _ (T4.setTop (mkF m 123 #[.val (.int x0), .val (.int x1), .val (.int x2), .val (.int x3), .val (.int x4), .val (.int (own_cp x0)), .val (.int (own_el x0 x1)), .val (.int (own_el x0 x2)), .val (.int (own_el x0 x3)), .val (.int (own_el x0 x4)), .val (.ref o), .val (.ref bs), .val (.int (own_f13 (own_el x0 x1) (own_f13 (own_el x0 x2) (own_el x0 x3)))), .val (.int (own_f14 (own_el x0 x1) (own_f14 (own_el x0 x2) (own_el x0 x3)))), .unset, .unset, .unset, .unset, .unset, .unset] [(.int (own_el x0 x3)), (.int ((own_el x0 x1) + (own_el x0 x2)))]))
  refine own_of (fun _ kk => XS.iadd X4.here hx rfl (hb hby at_123) rfl kk) ?_
  show own_Fin _ _ _ _ _ _ _ (T4.setTop (mkF m 124 #[.val (.int x0), .val (.int x1), .val (.int x2), .val (.int x3), .val (.int x4), .val (.int (own_cp x0)), .val (.int (own_el x0 x1)), .val (.int (own_el x0 x2)), .val (.int (own_el x0 x3)), .val (.int (own_el x0 x4)), .val (.ref o), .val (.ref bs), .val (.int (own_f13 (own_el x0 x1) (own_f13 (own_el x0 x2) (own_el x0 x3)))), .val (.int (own_f14 (own_el x0 x1) (own_f14 (own_el x0 x2) (own_el x0 x3)))), .unset, .unset, .unset, .unset, .unset, .unset] [(.int (((own_el x0 x1) + (own_el x0 x2)) + (own_el x0 x3)))]))
  refine own_of (fun _ kk => XS.iload X4.here hx rfl (hb hby at_124) rfl kk) ?_
  show own_Fin _ _ _ _ _ _ _ (T4.setTop (mkF m 126 #[.val (.int x0), .val (.int x1), .val (.int x2), .val (.int x3), .val (.int x4), .val (.int (own_cp x0)), .val (.int (own_el x0 x1)), .val (.int (own_el x0 x2)), .val (.int (own_el x0 x3)), .val (.int (own_el x0 x4)), .val (.ref o), .val (.ref bs), .val (.int (own_f13 (own_el x0 x1) (own_f13 (own_el x0 x2) (own_el x0 x3)))), .val (.int (own_f14 (own_el x0 x1) (own_f14 (own_el x0 x2) (own_el x0 x3)))), .unset, .unset, .unset, .unset, .unset, .unset] [(.int (own_f13 (own_el x0 x1) (own_f13 (own_el x0 x2) (own_el x0 x3)))), (.int (((own_el x0 x1) + (own_el x0 x2)) + (own_el x0 x3)))]))
  refine own_of (fun _ kk => XS.isub X4.here hx rfl (hb hby at_126) rfl kk) ?_
  show own_Fin _ _ _ _ _ _ _ (T4.setTop (mkF m 127 #[.val (.int x0), .val (.int x1), .val (.int x2), .val (.int x3), .val (.int x4), .val (.int (own_cp x0)), .val (.int (own_el x0 x1)), .val (.int (own_el x0 x2)), .val (.int (own_el x0 x3)), .val (.int (own_el x0 x4)), .val (.ref o), .val (.ref bs), .val (.int (own_f13 (own_el x0 x1) (own_f13 (own_el x0 x2) (own_el x0 x3)))), .val (.int (own_f14 (own_el x0 x1) (own_f14 (own_el x0 x2) (own_el x0 x3)))), .unset, .unset, .unset, .unset, .unset, .unset] [(.int ((((own_el x0 x1) + (own_el x0 x2)) + (own_el x0 x3)) - (own_f13 (own_el x0 x1) (own_f13 (own_el x0 x2) (own_el x0 x3)))))]))
  refine own_of (fun _ kk => XS.iload X4.here hx rfl (hb hby at_127) rfl kk) ?_
  show own_Fin _ _ _ _ _ _ _ (T4.setTop (mkF m 129 #[.val (.int x0), .val (.int x1), .val (.int x2), .val (.int x3), .val (.int x4), .val (.int (own_cp x0)), .val (.int (own_el x0 x1)), .val (.int (own_el x0 x2)), .val (.int (own_el x0 x3)), .val (.int (own_el x0 x4)), .val (.ref o), .val (.ref bs), .val (.int (own_f13 (own_el x0 x1) (own_f13 (own_el x0 x2) (own_el x0 x3)))), .val (.int (own_f14 (own_el x0 x1) (own_f14 (own_el x0 x2) (own_el x0 x3)))), .unset, .unset, .unset, .unset, .unset, .unset] [(.int (own_f14 (own_el x0 x1) (own_f14 (own_el x0 x2) (own_el x0 x3)))), (.int ((((own_el x0 x1) + (own_el x0 x2)) + (own_el x0 x3)) - (own_f13 (own_el x0 x1) (own_f13 (own_el x0 x2) (own_el x0 x3)))))]))
  refine own_of (fun _ kk => XS.isub X4.here hx rfl (hb hby at_129) rfl kk) ?_
  show own_Fin _ _ _ _ _ _ _ (T4.setTop (mkF m 130 #[.val (.int x0), .val (.int x1), .val (.int x2), .val (.int x3), .val (.int x4), .val (.int (own_cp x0)), .val (.int (own_el x0 x1)), .val (.int (own_el x0 x2)), .val (.int (own_el x0 x3)), .val (.int (own_el x0 x4)), .val (.ref o), .val (.ref bs), .val (.int (own_f13 (own_el x0 x1) (own_f13 (own_el x0 x2) (own_el x0 x3)))), .val (.int (own_f14 (own_el x0 x1) (own_f14 (own_el x0 x2) (own_el x0 x3)))), .unset, .unset, .unset, .unset, .unset, .unset] [(.int (((((own_el x0 x1) + (own_el x0 x2)) + (own_el x0 x3)) - (own_f13 (own_el x0 x1) (own_f13 (own_el x0 x2) (own_el x0 x3)))) - (own_f14 (own_el x0 x1) (own_f14 (own_el x0 x2) (own_el x0 x3)))))]))
  refine own_of (fun _ kk => XS.istore X4.here hx rfl (hb hby at_130) rfl (l' := #[.val (.int x0), .val (.int x1), .val (.int x2), .val (.int x3), .val (.int x4), .val (.int (own_cp x0)), .val (.int (own_el x0 x1)), .val (.int (own_el x0 x2)), .val (.int (own_el x0 x3)), .val (.int (own_el x0 x4)), .val (.ref o), .val (.ref bs), .val (.int (own_f13 (own_el x0 x1) (own_f13 (own_el x0 x2) (own_el x0 x3)))), .val (.int (own_f14 (own_el x0 x1) (own_f14 (own_el x0 x2) (own_el x0 x3)))), .val (.int (((((own_el x0 x1) + (own_el x0 x2)) + (own_el x0 x3)) - (own_f13 (own_el x0 x1) (own_f13 (own_el x0 x2) (own_el x0 x3)))) - (own_f14 (own_el x0 x1) (own_f14 (own_el x0 x2) (own_el x0 x3))))), .unset, .unset, .unset, .unset, .unset]) rfl kk) ?_
  show own_Fin _ _ _ _ _ _ _ (T4.setTop (mkF m 132 #[.val (.int x0), .val (.int x1), .val (.int x2), .val (.int x3), .val (.int x4), .val (.int (own_cp x0)), .val (.int (own_el x0 x1)), .val (.int (own_el x0 x2)), .val (.int (own_el x0 x3)), .val (.int (own_el x0 x4)), .val (.ref o), .val (.ref bs), .val (.int (own_f13 (own_el x0 x1) (own_f13 (own_el x0 x2) (own_el x0 x3)))), .val (.int (own_f14 (own_el x0 x1) (own_f14 (own_el x0 x2) (own_el x0 x3)))), .val (.int (((((own_el x0 x1) + (own_el x0 x2)) + (own_el x0 x3)) - (own_f13 (own_el x0 x1) (own_f13 (own_el x0 x2) (own_el x0 x3)))) - (own_f14 (own_el x0 x1) (own_f14 (own_el x0 x2) (own_el x0 x3))))), .unset, .unset, .unset, .unset, .unset] []))
  exact own_p132 l Z a0 hw x0 x1 x2 x3 x4 o a1 a2 a3 V H' D' ee d' bs R n3 _ _ _ n0 hx hby hml hown hZ hret hlk T4 _ h0 (own_wide X4 (by decide) (by decide)) N0 Z0 e4 Ox Ix gbs AS hR hn hlo hhi hmid
set_option maxRecDepth 65536 in
set_option maxHeartbeats 40000000 in
theorem own_p60 (l : Launch) (Z : State) (a0 : Array Value) (hw : ∀ d ∈ tables_1, d.before a0 Z = true) (x0 : Int32) (x1 : Int32) (x2 : Int32) (x3 : Int32) (x4 : Int32) (o : Addr) (a1 : Addr) (a2 : Addr) (a3 : Addr) (n0 : Nat) {p : Program} {e : Env} {s : State} {m : MethodId} {args : Array Value} {below : List Frame} {meth : Method} {c : Code} (hx : p.tables.exec = Jvm.exec) (hby : c.code = code) (hml : c.maxLocals = 20) (hown : s.vm.findClass "com/example/shardloom/shardloom/VertexSetAddPinLaw" = some m.cls) (hZ : Z.Warmed39 s.vm) (hret : meth.sig.returnType = ret) (hlk : meth.locks = false)
    (T0 : State) (locs : List Loc) (h0 : Heap) (X0 : Stand p l e room_1 s m args below meth c T0 locs (4) (220)) (N0 : Fr n0 locs) (Z0 : n0 ≤ h0.size) (e0 : T0.heap = h0) (O : own_VS Z h0 n0 o (own_cN x0) (own_wN x0) 0 0 a1 a2 a3 (fun _ => 0) (fun _ => 0) (fun _ => 0)) : own_Fin p e below s (room_1.cells) (room_1.slots) (fun v h L => v = some (.int 1) ∧ Fr n0 L) (T0.setTop (mkF m 60 #[.val (.int x0), .val (.int x1), .val (.int x2), .val (.int x3), .val (.int x4), .val (.int (own_cp x0)), .val (.int (own_el x0 x1)), .val (.int (own_el x0 x2)), .val (.int (own_el x0 x3)), .val (.int (own_el x0 x4)), .val (.ref o), .unset, .unset, .unset, .unset, .unset, .unset, .unset, .unset, .unset] [])) := by
  have I0 := own_inv0 (own_cN x0) (own_wN x0) (own_wN1 x0).2.2
  show own_Fin _ _ _ _ _ _ _ (T0.setTop (mkF m 60 #[.val (.int x0), .val (.int x1), .val (.int x2), .val (.int x3), .val (.int x4), .val (.int (own_cp x0)), .val (.int (own_el x0 x1)), .val (.int (own_el x0 x2)), .val (.int (own_el x0 x3)), .val (.int (own_el x0 x4)), .val (.ref o), .unset, .unset, .unset, .unset, .unset, .unset, .unset, .unset, .unset] []))
  refine own_of (fun _ kk => XS.aload X0.here hx rfl (hb hby at_60) rfl rfl kk) ?_
  show own_Fin _ _ _ _ _ _ _ (T0.setTop (mkF m 62 #[.val (.int x0), .val (.int x1), .val (.int x2), .val (.int x3), .val (.int x4), .val (.int (own_cp x0)), .val (.int (own_el x0 x1)), .val (.int (own_el x0 x2)), .val (.int (own_el x0 x3)), .val (.int (own_el x0 x4)), .val (.ref o), .unset, .unset, .unset, .unset, .unset, .unset, .unset, .unset, .unset] [(.ref o)]))
  refine own_of (fun _ kk => XS.iload X0.here hx rfl (hb hby at_62) rfl kk) ?_
  show own_Fin _ _ _ _ _ _ _ (T0.setTop (mkF m 64 #[.val (.int x0), .val (.int x1), .val (.int x2), .val (.int x3), .val (.int x4), .val (.int (own_cp x0)), .val (.int (own_el x0 x1)), .val (.int (own_el x0 x2)), .val (.int (own_el x0 x3)), .val (.int (own_el x0 x4)), .val (.ref o), .unset, .unset, .unset, .unset, .unset, .unset, .unset, .unset, .unset] [(.int (own_el x0 x1)), (.ref o)]))
  refine own_callV X0 hx hZ (y := (⟨"com/example/shardloom/shardloom/VertexSet", "add", "(I)V"⟩ : MethodName)) (z := (⟨"com/example/shardloom/shardloom/VertexSet", "add", "(I)V"⟩ : MethodName)) hown (hw _ (List.mem_of_getElem? (i := 18) rfl)) (hw _ (List.mem_of_getElem? (i := 19) rfl)) (notFace_of_selects (args := #[]) (mvT hZ (hw _ (List.mem_of_getElem? (i := 21) rfl)))) (hw _ (List.mem_of_getElem? (i := 21) rfl)) (hw _ (List.mem_of_getElem? (i := 20) rfl)) (hw _ (List.mem_of_getElem? (i := 3) rfl)) (hw _ (List.mem_of_getElem? (i := 22) rfl)) (by decide) e0 O.1 (argsL := [(.int (own_el x0 x1))]) (met3 l Z a0 hw o (own_el x0 x1) (own_cN x0) (own_wN x0) (0 : Int32) (0 : Int32) a1 a2 a3 (fun _ => 0) (fun _ => 0) (fun _ => 0) 0 0 (fun _ => 0) (fun _ => 0) (own_eN x0 x1) h0 n0 Z0 O (by decide) (by decide) I0 (by have := Nat.le_refl 0; omega) (own_eN1 x0 x1).1 (own_eN1 x0 x1).2) (W := 0) (by decide) (by decide) (by decide) (by decide) (by rw [hml]; rfl) pd_3 rfl (rest := []) rfl (Nat.le_of_eq rfl) (hb hby at_64) ?_
  intro v1 T1 h1 L1 X1 e1 q1
  obtain ⟨rfl, N1q, Z1, sz1, wc1, V1, H1, D1, nn1, mm1, en1, dn1, O1, hs1, hw1, I1, ex1⟩ := q1
  have N1 := Fr.app N0 N1q
  show own_Fin _ _ _ _ _ _ _ (T1.setTop (mkF m 67 #[.val (.int x0), .val (.int x1), .val (.int x2), .val (.int x3), .val (.int x4), .val (.int (own_cp x0)), .val (.int (own_el x0 x1)), .val (.int (own_el x0 x2)), .val (.int (own_el x0 x3)), .val (.int (own_el x0 x4)), .val (.ref o), .unset, .unset, .unset, .unset, .unset, .unset, .unset, .unset, .unset] []))
  have hb1 : nn1 ≤ 1 := by have := ex1.le; omega
  refine own_of (fun _ kk => XS.aload X1.here hx rfl (hb hby at_67) rfl rfl kk) ?_
  show own_Fin _ _ _ _ _ _ _ (T1.setTop (mkF m 69 #[.val (.int x0), .val (.int x1), .val (.int x2), .val (.int x3), .val (.int x4), .val (.int (own_cp x0)), .val (.int (own_el x0 x1)), .val (.int (own_el x0 x2)), .val (.int (own_el x0 x3)), .val (.int (own_el x0 x4)), .val (.ref o), .unset, .unset, .unset, .unset, .unset, .unset, .unset, .unset, .unset] [(.ref o)]))
  refine own_of (fun _ kk => XS.iload X1.here hx rfl (hb hby at_69) rfl kk) ?_
  show own_Fin _ _ _ _ _ _ _ (T1.setTop (mkF m 71 #[.val (.int x0), .val (.int x1), .val (.int x2), .val (.int x3), .val (.int x4), .val (.int (own_cp x0)), .val (.int (own_el x0 x1)), .val (.int (own_el x0 x2)), .val (.int (own_el x0 x3)), .val (.int (own_el x0 x4)), .val (.ref o), .unset, .unset, .unset, .unset, .unset, .unset, .unset, .unset, .unset] [(.int (own_el x0 x2)), (.ref o)]))
  refine own_callV X1 hx hZ (y := (⟨"com/example/shardloom/shardloom/VertexSet", "add", "(I)V"⟩ : MethodName)) (z := (⟨"com/example/shardloom/shardloom/VertexSet", "add", "(I)V"⟩ : MethodName)) hown (hw _ (List.mem_of_getElem? (i := 18) rfl)) (hw _ (List.mem_of_getElem? (i := 19) rfl)) (notFace_of_selects (args := #[]) (mvT hZ (hw _ (List.mem_of_getElem? (i := 21) rfl)))) (hw _ (List.mem_of_getElem? (i := 21) rfl)) (hw _ (List.mem_of_getElem? (i := 20) rfl)) (hw _ (List.mem_of_getElem? (i := 3) rfl)) (hw _ (List.mem_of_getElem? (i := 22) rfl)) (by decide) e1 O1.1 (argsL := [(.int (own_el x0 x2))]) (met3 l Z a0 hw o (own_el x0 x2) (own_cN x0) (own_wN x0) sz1 wc1 a1 a2 a3 V1 H1 D1 nn1 mm1 en1 dn1 (own_eN x0 x2) h1 n0 Z1 O1 hs1 hw1 I1 (by have := hb1; omega) (own_eN1 x0 x2).1 (own_eN1 x0 x2).2) (W := 0) (by decide) (by decide) (by decide) (by decide) (by rw [hml]; rfl) pd_3 rfl (rest := []) rfl (Nat.le_of_eq rfl) (hb hby at_71) ?_
  intro v2 T2 h2 L2 X2 e2 q2
  obtain ⟨rfl, N2q, Z2, sz2, wc2, V2, H2, D2, nn2, mm2, en2, dn2, O2, hs2, hw2, I2, ex2⟩ := q2
  have N2 := Fr.app N1 N2q
  show own_Fin _ _ _ _ _ _ _ (T2.setTop (mkF m 74 #[.val (.int x0), .val (.int x1), .val (.int x2), .val (.int x3), .val (.int x4), .val (.int (own_cp x0)), .val (.int (own_el x0 x1)), .val (.int (own_el x0 x2)), .val (.int (own_el x0 x3)), .val (.int (own_el x0 x4)), .val (.ref o), .unset, .unset, .unset, .unset, .unset, .unset, .unset, .unset, .unset] []))
  have hb2 : nn2 ≤ 2 := by have := ex2.le; have := hb1; omega
  refine own_of (fun _ kk => XS.aload X2.here hx rfl (hb hby at_74) rfl rfl kk) ?_
  show own_Fin _ _ _ _ _ _ _ (T2.setTop (mkF m 76 #[.val (.int x0), .val (.int x1), .val (.int x2), .val (.int x3), .val (.int x4), .val (.int (own_cp x0)), .val (.int (own_el x0 x1)), .val (.int (own_el x0 x2)), .val (.int (own_el x0 x3)), .val (.int (own_el x0 x4)), .val (.ref o), .unset, .unset, .unset, .unset, .unset, .unset, .unset, .unset, .unset] [(.ref o)]))
  refine own_of (fun _ kk => XS.iload X2.here hx rfl (hb hby at_76) rfl kk) ?_
  show own_Fin _ _ _ _ _ _ _ (T2.setTop (mkF m 78 #[.val (.int x0), .val (.int x1), .val (.int x2), .val (.int x3), .val (.int x4), .val (.int (own_cp x0)), .val (.int (own_el x0 x1)), .val (.int (own_el x0 x2)), .val (.int (own_el x0 x3)), .val (.int (own_el x0 x4)), .val (.ref o), .unset, .unset, .unset, .unset, .unset, .unset, .unset, .unset, .unset] [(.int (own_el x0 x3)), (.ref o)]))
  refine own_callV X2 hx hZ (y := (⟨"com/example/shardloom/shardloom/VertexSet", "add", "(I)V"⟩ : MethodName)) (z := (⟨"com/example/shardloom/shardloom/VertexSet", "add", "(I)V"⟩ : MethodName)) hown (hw _ (List.mem_of_getElem? (i := 18) rfl)) (hw _ (List.mem_of_getElem? (i := 19) rfl)) (notFace_of_selects (args := #[]) (mvT hZ (hw _ (List.mem_of_getElem? (i := 21) rfl)))) (hw _ (List.mem_of_getElem? (i := 21) rfl)) (hw _ (List.mem_of_getElem? (i := 20) rfl)) (hw _ (List.mem_of_getElem? (i := 3) rfl)) (hw _ (List.mem_of_getElem? (i := 22) rfl)) (by decide) e2 O2.1 (argsL := [(.int (own_el x0 x3))]) (met3 l Z a0 hw o (own_el x0 x3) (own_cN x0) (own_wN x0) sz2 wc2 a1 a2 a3 V2 H2 D2 nn2 mm2 en2 dn2 (own_eN x0 x3) h2 n0 Z2 O2 hs2 hw2 I2 (by have := hb2; omega) (own_eN1 x0 x3).1 (own_eN1 x0 x3).2) (W := 0) (by decide) (by decide) (by decide) (by decide) (by rw [hml]; rfl) pd_3 rfl (rest := []) rfl (Nat.le_of_eq rfl) (hb hby at_78) ?_
  intro v3 T3 h3 L3 X3 e3 q3
  obtain ⟨rfl, N3q, Z3, sz3, wc3, V3, H3, D3, nn3, mm3, en3, dn3, O3, hs3, hw3, I3, ex3⟩ := q3
  have N3 := Fr.app N2 N3q
  show own_Fin _ _ _ _ _ _ _ (T3.setTop (mkF m 81 #[.val (.int x0), .val (.int x1), .val (.int x2), .val (.int x3), .val (.int x4), .val (.int (own_cp x0)), .val (.int (own_el x0 x1)), .val (.int (own_el x0 x2)), .val (.int (own_el x0 x3)), .val (.int (own_el x0 x4)), .val (.ref o), .unset, .unset, .unset, .unset, .unset, .unset, .unset, .unset, .unset] []))
  have hb3 : nn3 ≤ 3 := by have := ex3.le; have := hb2; omega
  refine own_of (fun _ kk => XS.aload X3.here hx rfl (hb hby at_81) rfl rfl kk) ?_
  show own_Fin _ _ _ _ _ _ _ (T3.setTop (mkF m 83 #[.val (.int x0), .val (.int x1), .val (.int x2), .val (.int x3), .val (.int x4), .val (.int (own_cp x0)), .val (.int (own_el x0 x1)), .val (.int (own_el x0 x2)), .val (.int (own_el x0 x3)), .val (.int (own_el x0 x4)), .val (.ref o), .unset, .unset, .unset, .unset, .unset, .unset, .unset, .unset, .unset] [(.ref o)]))
  have srt := own_srt ex1 ex2 ex3
  refine own_callV X3 hx hZ (y := (⟨"com/example/shardloom/shardloom/VertexSet", "takeAscending", "()[I"⟩ : MethodName)) (z := (⟨"com/example/shardloom/shardloom/VertexSet", "takeAscending", "()[I"⟩ : MethodName)) hown (hw _ (List.mem_of_getElem? (i := 27) rfl)) (hw _ (List.mem_of_getElem? (i := 28) rfl)) (notFace_of_selects (args := #[]) (mvT hZ (hw _ (List.mem_of_getElem? (i := 30) rfl)))) (hw _ (List.mem_of_getElem? (i := 30) rfl)) (hw _ (List.mem_of_getElem? (i := 29) rfl)) (hw _ (List.mem_of_getElem? (i := 3) rfl)) (hw _ (List.mem_of_getElem? (i := 31) rfl)) (by decide) e3 O3.1 (argsL := []) (met4 l Z a0 hw o (own_cN x0) (own_wN x0) sz3 wc3 a1 a2 a3 V3 H3 D3 nn3 mm3 en3 dn3 (own_T (own_eN x0 x1) (own_eN x0 x2) (own_eN x0 x3)) (own_nwI x0) h3 n0 Z3 O3 hs3 hw3 I3 hb3 (I3.m1 srt.2.2.1) (own_wN1 x0).2.1 (I3.mle hb3) (own_wN1 x0).1 srt.1 srt.2.1 (fun i hi => Nat.lt_of_lt_of_le hi (I3.mle hb3))) (W := 0) (by decide) (by decide) (by decide) (by decide) (by rw [hml]; rfl) pd_1 rfl (rest := []) rfl (Nat.le_of_eq rfl) (hb hby at_83) ?_
  intro v4 T4 h4 L4 X4 e4 q4
  obtain ⟨bs, rfl, N4q, Z4, gbs, R, AS, hR, H', D', d', Ox, Ix⟩ := q4
  have N4 := Fr.app N3 N4q
  show own_Fin _ _ _ _ _ _ _ (T4.setTop (mkF m 86 #[.val (.int x0), .val (.int x1), .val (.int x2), .val (.int x3), .val (.int x4), .val (.int (own_cp x0)), .val (.int (own_el x0 x1)), .val (.int (own_el x0 x2)), .val (.int (own_el x0 x3)), .val (.int (own_el x0 x4)), .val (.ref o), .unset, .unset, .unset, .unset, .unset, .unset, .unset, .unset, .unset] [(.ref bs)]))
  refine own_of (fun _ kk => XS.astore X4.here hx rfl (hb hby at_86) rfl rfl (l' := #[.val (.int x0), .val (.int x1), .val (.int x2), .val (.int x3), .val (.int x4), .val (.int (own_cp x0)), .val (.int (own_el x0 x1)), .val (.int (own_el x0 x2)), .val (.int (own_el x0 x3)), .val (.int (own_el x0 x4)), .val (.ref o), .val (.ref bs), .unset, .unset, .unset, .unset, .unset, .unset, .unset, .unset]) rfl kk) ?_
  show own_Fin _ _ _ _ _ _ _ (T4.setTop (mkF m 88 #[.val (.int x0), .val (.int x1), .val (.int x2), .val (.int x3), .val (.int x4), .val (.int (own_cp x0)), .val (.int (own_el x0 x1)), .val (.int (own_el x0 x2)), .val (.int (own_el x0 x3)), .val (.int (own_el x0 x4)), .val (.ref o), .val (.ref bs), .unset, .unset, .unset, .unset, .unset, .unset, .unset, .unset] []))
  exact own_p88 l Z a0 hw x0 x1 x2 x3 x4 o a1 a2 a3 _ H' D' _ d' bs R _ n0 hx hby hml hown hZ hret hlk T4 _ h4 (own_wide X4 (by decide) (by decide)) N4 Z4 e4 Ox Ix gbs AS hR srt.2.2.2.2
set_option maxRecDepth 65536 in
set_option maxHeartbeats 40000000 in
theorem own_law (l : Launch) (Z : State) (a0 : Array Value) (hw : ∀ d ∈ tables_1, d.before a0 Z = true) (x0 : Int32) (x1 : Int32) (x2 : Int32) (x3 : Int32) (x4 : Int32) (h0 : Heap) (n0 : Nat) (Z0 : n0 ≤ h0.size) :
    own_Met l Z x code maxLocals ret room_1 #[(.int x0), (.int x1), (.int x2), (.int x3), (.int x4)] h0 (fun v h L => v = some (.int 1) ∧ Fr n0 L) := by
  refine own_met pn_0 ?_
  intro p e s m below meth c T0 X0 hx hby hml hown hZ e0 hret hlk hnm
  replace hown : s.vm.findClass "com/example/shardloom/shardloom/VertexSetAddPinLaw" = some m.cls := hown
  replace hml : c.maxLocals = 20 := hml
  rw [ef_0 m x0 x1 x2 x3 x4]
  have N0 := Fr.nil n0
  show own_Fin _ _ _ _ _ _ _ (T0.setTop (mkF m 0 #[.val (.int x0), .val (.int x1), .val (.int x2), .val (.int x3), .val (.int x4), .unset, .unset, .unset, .unset, .unset, .unset, .unset, .unset, .unset, .unset, .unset, .unset, .unset, .unset, .unset] []))
  refine own_of (fun _ kk => XS.iconst X0.here hx rfl (hb hby at_0) kk) ?_
  show own_Fin _ _ _ _ _ _ _ (T0.setTop (mkF m 1 #[.val (.int x0), .val (.int x1), .val (.int x2), .val (.int x3), .val (.int x4), .unset, .unset, .unset, .unset, .unset, .unset, .unset, .unset, .unset, .unset, .unset, .unset, .unset, .unset, .unset] [(.int (1 : Int32))]))
  refine own_of (fun _ kk => XS.iloadN X0.here hx rfl (hb hby at_1) rfl kk) ?_
  show own_Fin _ _ _ _ _ _ _ (T0.setTop (mkF m 2 #[.val (.int x0), .val (.int x1), .val (.int x2), .val (.int x3), .val (.int x4), .unset, .unset, .unset, .unset, .unset, .unset, .unset, .unset, .unset, .unset, .unset, .unset, .unset, .unset, .unset] [(.int x0), (.int (1 : Int32))]))
  refine own_of (fun _ kk => X0.ldcInt hx hown (mvT hZ (hw _ (List.mem_of_getElem? (i := 0) rfl))) (g := (mkF m 2 #[.val (.int x0), .val (.int x1), .val (.int x2), .val (.int x3), .val (.int x4), .unset, .unset, .unset, .unset, .unset, .unset, .unset, .unset, .unset, .unset, .unset, .unset, .unset, .unset, .unset] [(.int x0), (.int (1 : Int32))])) rfl (hb hby at_2) _ kk) ?_
  show own_Fin _ _ _ _ _ _ _ (T0.setTop (mkF m 4 #[.val (.int x0), .val (.int x1), .val (.int x2), .val (.int x3), .val (.int x4), .unset, .unset, .unset, .unset, .unset, .unset, .unset, .unset, .unset, .unset, .unset, .unset, .unset, .unset, .unset] [(.int (2147483647 : Int32)), (.int x0), (.int (1 : Int32))]))
  refine own_of (fun _ kk => XS.iand X0.here hx rfl (hb hby at_4) rfl kk) ?_
  show own_Fin _ _ _ _ _ _ _ (T0.setTop (mkF m 5 #[.val (.int x0), .val (.int x1), .val (.int x2), .val (.int x3), .val (.int x4), .unset, .unset, .unset, .unset, .unset, .unset, .unset, .unset, .unset, .unset, .unset, .unset, .unset, .unset, .unset] [(.int (x0 &&& (2147483647 : Int32))), (.int (1 : Int32))]))
  refine own_of (fun _ kk => XS.sipush X0.here hx rfl (hb hby at_5) kk) ?_
  show own_Fin _ _ _ _ _ _ _ (T0.setTop (mkF m 8 #[.val (.int x0), .val (.int x1), .val (.int x2), .val (.int x3), .val (.int x4), .unset, .unset, .unset, .unset, .unset, .unset, .unset, .unset, .unset, .unset, .unset, .unset, .unset, .unset, .unset] [(.int (200 : Int32)), (.int (x0 &&& (2147483647 : Int32))), (.int (1 : Int32))]))
  refine own_of (fun _ kk => iremM X0 hx rfl (hb hby at_8) rfl (by decide) kk) ?_
  show own_Fin _ _ _ _ _ _ _ (T0.setTop (mkF m 9 #[.val (.int x0), .val (.int x1), .val (.int x2), .val (.int x3), .val (.int x4), .unset, .unset, .unset, .unset, .unset, .unset, .unset, .unset, .unset, .unset, .unset, .unset, .unset, .unset, .unset] [(.int ((x0 &&& (2147483647 : Int32)) % (200 : Int32))), (.int (1 : Int32))]))
  refine own_of (fun _ kk => XS.iadd X0.here hx rfl (hb hby at_9) rfl kk) ?_
  show own_Fin _ _ _ _ _ _ _ (T0.setTop (mkF m 10 #[.val (.int x0), .val (.int x1), .val (.int x2), .val (.int x3), .val (.int x4), .unset, .unset, .unset, .unset, .unset, .unset, .unset, .unset, .unset, .unset, .unset, .unset, .unset, .unset, .unset] [(.int ((1 : Int32) + ((x0 &&& (2147483647 : Int32)) % (200 : Int32))))]))
  refine own_of (fun _ kk => XS.istore X0.here hx rfl (hb hby at_10) rfl (l' := #[.val (.int x0), .val (.int x1), .val (.int x2), .val (.int x3), .val (.int x4), .val (.int ((1 : Int32) + ((x0 &&& (2147483647 : Int32)) % (200 : Int32)))), .unset, .unset, .unset, .unset, .unset, .unset, .unset, .unset, .unset, .unset, .unset, .unset, .unset, .unset]) rfl kk) ?_
  show own_Fin _ _ _ _ _ _ _ (T0.setTop (mkF m 12 #[.val (.int x0), .val (.int x1), .val (.int x2), .val (.int x3), .val (.int x4), .val (.int ((1 : Int32) + ((x0 &&& (2147483647 : Int32)) % (200 : Int32)))), .unset, .unset, .unset, .unset, .unset, .unset, .unset, .unset, .unset, .unset, .unset, .unset, .unset, .unset] []))
  show own_Fin _ _ _ _ _ _ _ (T0.setTop (mkF m 12 #[.val (.int x0), .val (.int x1), .val (.int x2), .val (.int x3), .val (.int x4), .val (.int (own_cp x0)), .unset, .unset, .unset, .unset, .unset, .unset, .unset, .unset, .unset, .unset, .unset, .unset, .unset, .unset] []))
  refine own_of (fun _ kk => XS.iloadN X0.here hx rfl (hb hby at_12) rfl kk) ?_
  show own_Fin _ _ _ _ _ _ _ (T0.setTop (mkF m 13 #[.val (.int x0), .val (.int x1), .val (.int x2), .val (.int x3), .val (.int x4), .val (.int (own_cp x0)), .unset, .unset, .unset, .unset, .unset, .unset, .unset, .unset, .unset, .unset, .unset, .unset, .unset, .unset] [(.int x1)]))
  refine own_of (fun _ kk => X0.ldcInt hx hown (mvT hZ (hw _ (List.mem_of_getElem? (i := 0) rfl))) (g := (mkF m 13 #[.val (.int x0), .val (.int x1), .val (.int x2), .val (.int x3), .val (.int x4), .val (.int (own_cp x0)), .unset, .unset, .unset, .unset, .unset, .unset, .unset, .unset, .unset, .unset, .unset, .unset, .unset, .unset] [(.int x1)])) rfl (hb hby at_13) _ kk) ?_
  show own_Fin _ _ _ _ _ _ _ (T0.setTop (mkF m 15 #[.val (.int x0), .val (.int x1), .val (.int x2), .val (.int x3), .val (.int x4), .val (.int (own_cp x0)), .unset, .unset, .unset, .unset, .unset, .unset, .unset, .unset, .unset, .unset, .unset, .unset, .unset, .unset] [(.int (2147483647 : Int32)), (.int x1)]))
  refine own_of (fun _ kk => XS.iand X0.here hx rfl (hb hby at_15) rfl kk) ?_
  show own_Fin _ _ _ _ _ _ _ (T0.setTop (mkF m 16 #[.val (.int x0), .val (.int x1), .val (.int x2), .val (.int x3), .val (.int x4), .val (.int (own_cp x0)), .unset, .unset, .unset, .unset, .unset, .unset, .unset, .unset, .unset, .unset, .unset, .unset, .unset, .unset] [(.int (x1 &&& (2147483647 : Int32)))]))
  refine own_of (fun _ kk => XS.iload X0.here hx rfl (hb hby at_16) rfl kk) ?_
  show own_Fin _ _ _ _ _ _ _ (T0.setTop (mkF m 18 #[.val (.int x0), .val (.int x1), .val (.int x2), .val (.int x3), .val (.int x4), .val (.int (own_cp x0)), .unset, .unset, .unset, .unset, .unset, .unset, .unset, .unset, .unset, .unset, .unset, .unset, .unset, .unset] [(.int (own_cp x0)), (.int (x1 &&& (2147483647 : Int32)))]))
  refine own_of (fun _ kk => iremM X0 hx rfl (hb hby at_18) rfl (own_cpz x0) kk) ?_
  show own_Fin _ _ _ _ _ _ _ (T0.setTop (mkF m 19 #[.val (.int x0), .val (.int x1), .val (.int x2), .val (.int x3), .val (.int x4), .val (.int (own_cp x0)), .unset, .unset, .unset, .unset, .unset, .unset, .unset, .unset, .unset, .unset, .unset, .unset, .unset, .unset] [(.int ((x1 &&& (2147483647 : Int32)) % (own_cp x0)))]))
  refine own_of (fun _ kk => XS.istore X0.here hx rfl (hb hby at_19) rfl (l' := #[.val (.int x0), .val (.int x1), .val (.int x2), .val (.int x3), .val (.int x4), .val (.int (own_cp x0)), .val (.int ((x1 &&& (2147483647 : Int32)) % (own_cp x0))), .unset, .unset, .unset, .unset, .unset, .unset, .unset, .unset, .unset, .unset, .unset, .unset, .unset]) rfl kk) ?_
  show own_Fin _ _ _ _ _ _ _ (T0.setTop (mkF m 21 #[.val (.int x0), .val (.int x1), .val (.int x2), .val (.int x3), .val (.int x4), .val (.int (own_cp x0)), .val (.int ((x1 &&& (2147483647 : Int32)) % (own_cp x0))), .unset, .unset, .unset, .unset, .unset, .unset, .unset, .unset, .unset, .unset, .unset, .unset, .unset] []))
  show own_Fin _ _ _ _ _ _ _ (T0.setTop (mkF m 21 #[.val (.int x0), .val (.int x1), .val (.int x2), .val (.int x3), .val (.int x4), .val (.int (own_cp x0)), .val (.int (own_el x0 x1)), .unset, .unset, .unset, .unset, .unset, .unset, .unset, .unset, .unset, .unset, .unset, .unset, .unset] []))
  refine own_of (fun _ kk => XS.iloadN X0.here hx rfl (hb hby at_21) rfl kk) ?_
  show own_Fin _ _ _ _ _ _ _ (T0.setTop (mkF m 22 #[.val (.int x0), .val (.int x1), .val (.int x2), .val (.int x3), .val (.int x4), .val (.int (own_cp x0)), .val (.int (own_el x0 x1)), .unset, .unset, .unset, .unset, .unset, .unset, .unset, .unset, .unset, .unset, .unset, .unset, .unset] [(.int x2)]))
  refine own_of (fun _ kk => X0.ldcInt hx hown (mvT hZ (hw _ (List.mem_of_getElem? (i := 0) rfl))) (g := (mkF m 22 #[.val (.int x0), .val (.int x1), .val (.int x2), .val (.int x3), .val (.int x4), .val (.int (own_cp x0)), .val (.int (own_el x0 x1)), .unset, .unset, .unset, .unset, .unset, .unset, .unset, .unset, .unset, .unset, .unset, .unset, .unset] [(.int x2)])) rfl (hb hby at_22) _ kk) ?_
  show own_Fin _ _ _ _ _ _ _ (T0.setTop (mkF m 24 #[.val (.int x0), .val (.int x1), .val (.int x2), .val (.int x3), .val (.int x4), .val (.int (own_cp x0)), .val (.int (own_el x0 x1)), .unset, .unset, .unset, .unset, .unset, .unset, .unset, .unset, .unset, .unset, .unset, .unset, .unset] [(.int (2147483647 : Int32)), (.int x2)]))
  refine own_of (fun _ kk => XS.iand X0.here hx rfl (hb hby at_24) rfl kk) ?_
  show own_Fin _ _ _ _ _ _ _ (T0.setTop (mkF m 25 #[.val (.int x0), .val (.int x1), .val (.int x2), .val (.int x3), .val (.int x4), .val (.int (own_cp x0)), .val (.int (own_el x0 x1)), .unset, .unset, .unset, .unset, .unset, .unset, .unset, .unset, .unset, .unset, .unset, .unset, .unset] [(.int (x2 &&& (2147483647 : Int32)))]))
  refine own_of (fun _ kk => XS.iload X0.here hx rfl (hb hby at_25) rfl kk) ?_
  show own_Fin _ _ _ _ _ _ _ (T0.setTop (mkF m 27 #[.val (.int x0), .val (.int x1), .val (.int x2), .val (.int x3), .val (.int x4), .val (.int (own_cp x0)), .val (.int (own_el x0 x1)), .unset, .unset, .unset, .unset, .unset, .unset, .unset, .unset, .unset, .unset, .unset, .unset, .unset] [(.int (own_cp x0)), (.int (x2 &&& (2147483647 : Int32)))]))
  refine own_of (fun _ kk => iremM X0 hx rfl (hb hby at_27) rfl (own_cpz x0) kk) ?_
  show own_Fin _ _ _ _ _ _ _ (T0.setTop (mkF m 28 #[.val (.int x0), .val (.int x1), .val (.int x2), .val (.int x3), .val (.int x4), .val (.int (own_cp x0)), .val (.int (own_el x0 x1)), .unset, .unset, .unset, .unset, .unset, .unset, .unset, .unset, .unset, .unset, .unset, .unset, .unset] [(.int ((x2 &&& (2147483647 : Int32)) % (own_cp x0)))]))
  refine own_of (fun _ kk => XS.istore X0.here hx rfl (hb hby at_28) rfl (l' := #[.val (.int x0), .val (.int x1), .val (.int x2), .val (.int x3), .val (.int x4), .val (.int (own_cp x0)), .val (.int (own_el x0 x1)), .val (.int ((x2 &&& (2147483647 : Int32)) % (own_cp x0))), .unset, .unset, .unset, .unset, .unset, .unset, .unset, .unset, .unset, .unset, .unset, .unset]) rfl kk) ?_
  show own_Fin _ _ _ _ _ _ _ (T0.setTop (mkF m 30 #[.val (.int x0), .val (.int x1), .val (.int x2), .val (.int x3), .val (.int x4), .val (.int (own_cp x0)), .val (.int (own_el x0 x1)), .val (.int ((x2 &&& (2147483647 : Int32)) % (own_cp x0))), .unset, .unset, .unset, .unset, .unset, .unset, .unset, .unset, .unset, .unset, .unset, .unset] []))
  show own_Fin _ _ _ _ _ _ _ (T0.setTop (mkF m 30 #[.val (.int x0), .val (.int x1), .val (.int x2), .val (.int x3), .val (.int x4), .val (.int (own_cp x0)), .val (.int (own_el x0 x1)), .val (.int (own_el x0 x2)), .unset, .unset, .unset, .unset, .unset, .unset, .unset, .unset, .unset, .unset, .unset, .unset] []))
  refine own_of (fun _ kk => XS.iloadN X0.here hx rfl (hb hby at_30) rfl kk) ?_
  show own_Fin _ _ _ _ _ _ _ (T0.setTop (mkF m 31 #[.val (.int x0), .val (.int x1), .val (.int x2), .val (.int x3), .val (.int x4), .val (.int (own_cp x0)), .val (.int (own_el x0 x1)), .val (.int (own_el x0 x2)), .unset, .unset, .unset, .unset, .unset, .unset, .unset, .unset, .unset, .unset, .unset, .unset] [(.int x3)]))
  refine own_of (fun _ kk => X0.ldcInt hx hown (mvT hZ (hw _ (List.mem_of_getElem? (i := 0) rfl))) (g := (mkF m 31 #[.val (.int x0), .val (.int x1), .val (.int x2), .val (.int x3), .val (.int x4), .val (.int (own_cp x0)), .val (.int (own_el x0 x1)), .val (.int (own_el x0 x2)), .unset, .unset, .unset, .unset, .unset, .unset, .unset, .unset, .unset, .unset, .unset, .unset] [(.int x3)])) rfl (hb hby at_31) _ kk) ?_
  show own_Fin _ _ _ _ _ _ _ (T0.setTop (mkF m 33 #[.val (.int x0), .val (.int x1), .val (.int x2), .val (.int x3), .val (.int x4), .val (.int (own_cp x0)), .val (.int (own_el x0 x1)), .val (.int (own_el x0 x2)), .unset, .unset, .unset, .unset, .unset, .unset, .unset, .unset, .unset, .unset, .unset, .unset] [(.int (2147483647 : Int32)), (.int x3)]))
  refine own_of (fun _ kk => XS.iand X0.here hx rfl (hb hby at_33) rfl kk) ?_
  show own_Fin _ _ _ _ _ _ _ (T0.setTop (mkF m 34 #[.val (.int x0), .val (.int x1), .val (.int x2), .val (.int x3), .val (.int x4), .val (.int (own_cp x0)), .val (.int (own_el x0 x1)), .val (.int (own_el x0 x2)), .unset, .unset, .unset, .unset, .unset, .unset, .unset, .unset, .unset, .unset, .unset, .unset] [(.int (x3 &&& (2147483647 : Int32)))]))
  refine own_of (fun _ kk => XS.iload X0.here hx rfl (hb hby at_34) rfl kk) ?_
  show own_Fin _ _ _ _ _ _ _ (T0.setTop (mkF m 36 #[.val (.int x0), .val (.int x1), .val (.int x2), .val (.int x3), .val (.int x4), .val (.int (own_cp x0)), .val (.int (own_el x0 x1)), .val (.int (own_el x0 x2)), .unset, .unset, .unset, .unset, .unset, .unset, .unset, .unset, .unset, .unset, .unset, .unset] [(.int (own_cp x0)), (.int (x3 &&& (2147483647 : Int32)))]))
  refine own_of (fun _ kk => iremM X0 hx rfl (hb hby at_36) rfl (own_cpz x0) kk) ?_
  show own_Fin _ _ _ _ _ _ _ (T0.setTop (mkF m 37 #[.val (.int x0), .val (.int x1), .val (.int x2), .val (.int x3), .val (.int x4), .val (.int (own_cp x0)), .val (.int (own_el x0 x1)), .val (.int (own_el x0 x2)), .unset, .unset, .unset, .unset, .unset, .unset, .unset, .unset, .unset, .unset, .unset, .unset] [(.int ((x3 &&& (2147483647 : Int32)) % (own_cp x0)))]))
  refine own_of (fun _ kk => XS.istore X0.here hx rfl (hb hby at_37) rfl (l' := #[.val (.int x0), .val (.int x1), .val (.int x2), .val (.int x3), .val (.int x4), .val (.int (own_cp x0)), .val (.int (own_el x0 x1)), .val (.int (own_el x0 x2)), .val (.int ((x3 &&& (2147483647 : Int32)) % (own_cp x0))), .unset, .unset, .unset, .unset, .unset, .unset, .unset, .unset, .unset, .unset, .unset]) rfl kk) ?_
  show own_Fin _ _ _ _ _ _ _ (T0.setTop (mkF m 39 #[.val (.int x0), .val (.int x1), .val (.int x2), .val (.int x3), .val (.int x4), .val (.int (own_cp x0)), .val (.int (own_el x0 x1)), .val (.int (own_el x0 x2)), .val (.int ((x3 &&& (2147483647 : Int32)) % (own_cp x0))), .unset, .unset, .unset, .unset, .unset, .unset, .unset, .unset, .unset, .unset, .unset] []))
  show own_Fin _ _ _ _ _ _ _ (T0.setTop (mkF m 39 #[.val (.int x0), .val (.int x1), .val (.int x2), .val (.int x3), .val (.int x4), .val (.int (own_cp x0)), .val (.int (own_el x0 x1)), .val (.int (own_el x0 x2)), .val (.int (own_el x0 x3)), .unset, .unset, .unset, .unset, .unset, .unset, .unset, .unset, .unset, .unset, .unset] []))
  refine own_of (fun _ kk => XS.iload X0.here hx rfl (hb hby at_39) rfl kk) ?_
  show own_Fin _ _ _ _ _ _ _ (T0.setTop (mkF m 41 #[.val (.int x0), .val (.int x1), .val (.int x2), .val (.int x3), .val (.int x4), .val (.int (own_cp x0)), .val (.int (own_el x0 x1)), .val (.int (own_el x0 x2)), .val (.int (own_el x0 x3)), .unset, .unset, .unset, .unset, .unset, .unset, .unset, .unset, .unset, .unset, .unset] [(.int x4)]))
  refine own_of (fun _ kk => X0.ldcInt hx hown (mvT hZ (hw _ (List.mem_of_getElem? (i := 0) rfl))) (g := (mkF m 41 #[.val (.int x0), .val (.int x1), .val (.int x2), .val (.int x3), .val (.int x4), .val (.int (own_cp x0)), .val (.int (own_el x0 x1)), .val (.int (own_el x0 x2)), .val (.int (own_el x0 x3)), .unset, .unset, .unset, .unset, .unset, .unset, .unset, .unset, .unset, .unset, .unset] [(.int x4)])) rfl (hb hby at_41) _ kk) ?_
  show own_Fin _ _ _ _ _ _ _ (T0.setTop (mkF m 43 #[.val (.int x0), .val (.int x1), .val (.int x2), .val (.int x3), .val (.int x4), .val (.int (own_cp x0)), .val (.int (own_el x0 x1)), .val (.int (own_el x0 x2)), .val (.int (own_el x0 x3)), .unset, .unset, .unset, .unset, .unset, .unset, .unset, .unset, .unset, .unset, .unset] [(.int (2147483647 : Int32)), (.int x4)]))
  refine own_of (fun _ kk => XS.iand X0.here hx rfl (hb hby at_43) rfl kk) ?_
  show own_Fin _ _ _ _ _ _ _ (T0.setTop (mkF m 44 #[.val (.int x0), .val (.int x1), .val (.int x2), .val (.int x3), .val (.int x4), .val (.int (own_cp x0)), .val (.int (own_el x0 x1)), .val (.int (own_el x0 x2)), .val (.int (own_el x0 x3)), .unset, .unset, .unset, .unset, .unset, .unset, .unset, .unset, .unset, .unset, .unset] [(.int (x4 &&& (2147483647 : Int32)))]))
  refine own_of (fun _ kk => XS.iload X0.here hx rfl (hb hby at_44) rfl kk) ?_
  show own_Fin _ _ _ _ _ _ _ (T0.setTop (mkF m 46 #[.val (.int x0), .val (.int x1), .val (.int x2), .val (.int x3), .val (.int x4), .val (.int (own_cp x0)), .val (.int (own_el x0 x1)), .val (.int (own_el x0 x2)), .val (.int (own_el x0 x3)), .unset, .unset, .unset, .unset, .unset, .unset, .unset, .unset, .unset, .unset, .unset] [(.int (own_cp x0)), (.int (x4 &&& (2147483647 : Int32)))]))
  refine own_of (fun _ kk => iremM X0 hx rfl (hb hby at_46) rfl (own_cpz x0) kk) ?_
  show own_Fin _ _ _ _ _ _ _ (T0.setTop (mkF m 47 #[.val (.int x0), .val (.int x1), .val (.int x2), .val (.int x3), .val (.int x4), .val (.int (own_cp x0)), .val (.int (own_el x0 x1)), .val (.int (own_el x0 x2)), .val (.int (own_el x0 x3)), .unset, .unset, .unset, .unset, .unset, .unset, .unset, .unset, .unset, .unset, .unset] [(.int ((x4 &&& (2147483647 : Int32)) % (own_cp x0)))]))
  refine own_of (fun _ kk => XS.istore X0.here hx rfl (hb hby at_47) rfl (l' := #[.val (.int x0), .val (.int x1), .val (.int x2), .val (.int x3), .val (.int x4), .val (.int (own_cp x0)), .val (.int (own_el x0 x1)), .val (.int (own_el x0 x2)), .val (.int (own_el x0 x3)), .val (.int ((x4 &&& (2147483647 : Int32)) % (own_cp x0))), .unset, .unset, .unset, .unset, .unset, .unset, .unset, .unset, .unset, .unset]) rfl kk) ?_
  show own_Fin _ _ _ _ _ _ _ (T0.setTop (mkF m 49 #[.val (.int x0), .val (.int x1), .val (.int x2), .val (.int x3), .val (.int x4), .val (.int (own_cp x0)), .val (.int (own_el x0 x1)), .val (.int (own_el x0 x2)), .val (.int (own_el x0 x3)), .val (.int ((x4 &&& (2147483647 : Int32)) % (own_cp x0))), .unset, .unset, .unset, .unset, .unset, .unset, .unset, .unset, .unset, .unset] []))
  show own_Fin _ _ _ _ _ _ _ (T0.setTop (mkF m 49 #[.val (.int x0), .val (.int x1), .val (.int x2), .val (.int x3), .val (.int x4), .val (.int (own_cp x0)), .val (.int (own_el x0 x1)), .val (.int (own_el x0 x2)), .val (.int (own_el x0 x3)), .val (.int (own_el x0 x4)), .unset, .unset, .unset, .unset, .unset, .unset, .unset, .unset, .unset, .unset] []))
  refine own_newO X0 hx hZ hown (hw _ (List.mem_of_getElem? (i := 1) rfl)) (hw _ (List.mem_of_getElem? (i := 2) rfl)) (hw _ (List.mem_of_getElem? (i := 3) rfl)) e0 (hb hby at_49) (by decide) (by decide) ?_
  intro T1 h1 b1 X1 e1 E1 g1 A1 D1
  have Z1 : n0 ≤ h1.size := Nat.le_trans Z0 E1.1
  have ge_b1 : n0 ≤ b1 := by rw [g1]; exact Z0
  have Fb1_vertices : Fld Z h1 b1 "com/example/shardloom/shardloom/VertexSet" "vertices" "[I" .null := D1 (Or.inr (hw _ (List.mem_of_getElem? (i := 12) rfl))) (ty := (.array .int)) (by decide)
  have Fb1_held : Fld Z h1 b1 "com/example/shardloom/shardloom/VertexSet" "held" "[J" .null := D1 (Or.inr (hw _ (List.mem_of_getElem? (i := 15) rfl))) (ty := (.array .long)) (by decide)
  have Fb1_words : Fld Z h1 b1 "com/example/shardloom/shardloom/VertexSet" "words" "[I" .null := D1 (Or.inr (hw _ (List.mem_of_getElem? (i := 17) rfl))) (ty := (.array .int)) (by decide)
  have Fb1_wordCount : Fld Z h1 b1 "com/example/shardloom/shardloom/VertexSet" "wordCount" "I" (.int (0 : Int32)) := D1 (Or.inl (hw _ (List.mem_of_getElem? (i := 24) rfl))) (ty := .int) (by decide)
  have Fb1_size : Fld Z h1 b1 "com/example/shardloom/shardloom/VertexSet" "size" "I" (.int (0 : Int32)) := D1 (Or.inl (hw _ (List.mem_of_getElem? (i := 26) rfl))) (ty := .int) (by decide)
  show own_Fin _ _ _ _ _ _ _ (T1.setTop (mkF m 52 #[.val (.int x0), .val (.int x1), .val (.int x2), .val (.int x3), .val (.int x4), .val (.int (own_cp x0)), .val (.int (own_el x0 x1)), .val (.int (own_el x0 x2)), .val (.int (own_el x0 x3)), .val (.int (own_el x0 x4)), .unset, .unset, .unset, .unset, .unset, .unset, .unset, .unset, .unset, .unset] [(.ref b1)]))
  refine own_of (fun _ kk => XS.dup X1.here hx rfl (hb hby at_52) rfl rfl kk) ?_
  show own_Fin _ _ _ _ _ _ _ (T1.setTop (mkF m 53 #[.val (.int x0), .val (.int x1), .val (.int x2), .val (.int x3), .val (.int x4), .val (.int (own_cp x0)), .val (.int (own_el x0 x1)), .val (.int (own_el x0 x2)), .val (.int (own_el x0 x3)), .val (.int (own_el x0 x4)), .unset, .unset, .unset, .unset, .unset, .unset, .unset, .unset, .unset, .unset] [(.ref b1), (.ref b1)]))
  refine own_of (fun _ kk => XS.iload X1.here hx rfl (hb hby at_53) rfl kk) ?_
  show own_Fin _ _ _ _ _ _ _ (T1.setTop (mkF m 55 #[.val (.int x0), .val (.int x1), .val (.int x2), .val (.int x3), .val (.int x4), .val (.int (own_cp x0)), .val (.int (own_el x0 x1)), .val (.int (own_el x0 x2)), .val (.int (own_el x0 x3)), .val (.int (own_el x0 x4)), .unset, .unset, .unset, .unset, .unset, .unset, .unset, .unset, .unset, .unset] [(.int (own_cp x0)), (.ref b1), (.ref b1)]))
  refine own_callC X1 hx hZ (y := (⟨"com/example/shardloom/shardloom/VertexSet", "<init>", "(I)V"⟩ : MethodName)) rfl hown (hw _ (List.mem_of_getElem? (i := 4) rfl)) (hw _ (List.mem_of_getElem? (i := 5) rfl)) (hw _ (List.mem_of_getElem? (i := 3) rfl)) (hw _ (List.mem_of_getElem? (i := 6) rfl)) (by decide) e1 (argsL := [(.int (own_cp x0))]) (met1 l Z a0 hw b1 (own_cp x0) (own_cN x0) (own_wN x0) h1 n0 Z1 (own_cN1 x0).1 (own_cN1 x0).2.2 (own_wN1 x0).1 (own_wN1 x0).2.1 A1 Fb1_size Fb1_wordCount Fb1_vertices Fb1_held Fb1_words ge_b1) (W := 1) (by decide) (by decide) (by decide) (by decide) (by rw [hml]; rfl) pd_3 rfl (rest := [(.ref b1)]) rfl (Nat.le_of_eq rfl) (hb hby at_55) ?_
  intro v2 T2 h2 L2 X2 e2 q2
  obtain ⟨rfl, N2q, Z2, a1, a2, a3, O2⟩ := q2
  have N2 := Fr.app N0 N2q
  show own_Fin _ _ _ _ _ _ _ (T2.setTop (mkF m 58 #[.val (.int x0), .val (.int x1), .val (.int x2), .val (.int x3), .val (.int x4), .val (.int (own_cp x0)), .val (.int (own_el x0 x1)), .val (.int (own_el x0 x2)), .val (.int (own_el x0 x3)), .val (.int (own_el x0 x4)), .unset, .unset, .unset, .unset, .unset, .unset, .unset, .unset, .unset, .unset] [(.ref b1)]))
  have I0 := own_inv0 (own_cN x0) (own_wN x0) (own_wN1 x0).2.2
  refine own_of (fun _ kk => XS.astore X2.here hx rfl (hb hby at_58) rfl rfl (l' := #[.val (.int x0), .val (.int x1), .val (.int x2), .val (.int x3), .val (.int x4), .val (.int (own_cp x0)), .val (.int (own_el x0 x1)), .val (.int (own_el x0 x2)), .val (.int (own_el x0 x3)), .val (.int (own_el x0 x4)), .val (.ref b1), .unset, .unset, .unset, .unset, .unset, .unset, .unset, .unset, .unset]) rfl kk) ?_
  show own_Fin _ _ _ _ _ _ _ (T2.setTop (mkF m 60 #[.val (.int x0), .val (.int x1), .val (.int x2), .val (.int x3), .val (.int x4), .val (.int (own_cp x0)), .val (.int (own_el x0 x1)), .val (.int (own_el x0 x2)), .val (.int (own_el x0 x3)), .val (.int (own_el x0 x4)), .val (.ref b1), .unset, .unset, .unset, .unset, .unset, .unset, .unset, .unset, .unset] []))
  exact own_p60 l Z a0 hw x0 x1 x2 x3 x4 b1 a1 a2 a3 n0 hx hby hml hown hZ hret hlk T2 _ h2 (own_wide X2 (by decide) (by decide)) N2 Z2 e2 O2
set_option maxRecDepth 65536 in
set_option maxHeartbeats 40000000 in
theorem comes_1 {Post : Tables → Env → Array Value → State → Outcome → State → Prop} (hpost : ∀ tb e args s v u, (limb_1_1.after args s (.returned v) u = true ∧ limb_1_2.after args s (.returned v) u = true ∧ True) → FrameEnd s (.returned v) u (Jvm.fieldLocs frame_1_writes args s ++ Jvm.arrayLocs frame_1_arrays args s ++ Jvm.staticLocs frame_1_statics s) 24 512 → Post tb e args s (.returned v) u) :
    ArmFor flags0 classFile x code maxLocals ret World_1 tables_1 room_1 Calls_1 rest_1 Pre_1 Post := by
  intro l hfl _ _ p e ha hc hk s m args below hf hA hF happ hP
  obtain ⟨hcalls, hrest, hpre⟩ := hP
  obtain ⟨-, -, -, hnamed, -, -, -, hat⟩ := (Spec.applies_iff hf).mp happ
  obtain ⟨hg, hn⟩ := and_e (Cond.before_iff.mp (show (Jvm.Cond.and given_1 narrow_1).before args s = true from hpre))
  obtain ⟨g1, g2⟩ := and_e hg
  obtain ⟨g3, g4⟩ := and_e g2
  obtain ⟨g5, g6⟩ := and_e g4
  obtain ⟨g7, g8⟩ := and_e g6
  obtain ⟨g9, g10⟩ := and_e g8
  obtain ⟨w0, w1, w2, w3, w4, rfl⟩ : ∃ w0 w1 w2 w3 w4 : Value, args = #[w0, w1, w2, w3, w4] := by
    have hs : args.size = 5 := by simpa [Cond.value, given_1] using g1
    obtain ⟨L⟩ := args
    match L, hs with
    | [w0, w1, w2, w3, w4], _ => exact ⟨w0, w1, w2, w3, w4, rfl⟩
  have hw := fun d (hd : d ∈ tables_1) => atoms_spec (ws := Jvm.Cond.code x code maxLocals ret :: tables_1) hat d (List.mem_cons_of_mem _ hd)
  obtain ⟨i0, ei0⟩ := is_v g3
  obtain rfl : w0 = (.int i0) := Option.some.inj ei0
  obtain ⟨i1, ei1⟩ := is_v g5
  obtain rfl : w1 = (.int i1) := Option.some.inj ei1
  obtain ⟨i2, ei2⟩ := is_v g7
  obtain rfl : w2 = (.int i2) := Option.some.inj ei2
  obtain ⟨i3, ei3⟩ := is_v g9
  obtain rfl : w3 = (.int i3) := Option.some.inj ei3
  obtain ⟨i4, ei4⟩ := is_v g10
  obtain rfl : w4 = (.int i4) := Option.some.inj ei4
  obtain ⟨n, o, h1, h2, h3, _, L, rfl, ⟨rfl, N⟩, hq⟩ := own_law l s _ hw i0 i1 i2 i3 i4 s.heap s.heap.size (Nat.le_refl _) tables_1 p e ha hc hk s m _ below hf ((Spec.applies_iff_loose hf).mp happ).1 ⟨rfl, State.Warmed39.refl s, rfl⟩ trivial
  refine ⟨n, _, h1, h2, h3, hpost _ _ _ _ _ _ ⟨Cond.after_iff.mpr rfl, Cond.after_iff.mpr (eq_i res_at (Term.int_eval (1)) rfl), trivial⟩ ⟨hq.1, hq.2.1, (hq.2.2.sift fun y hy => Or.inr (N y hy)).mono (by decide) (by decide)⟩⟩
theorem main_1_1 : Claimed_1_1 := comes_1 fun _ _ _ _ _ _ h hF => ⟨h.1, hF⟩
theorem main_1_2 : Claimed_1_2 := comes_1 fun _ _ _ _ _ _ h hF => ⟨h.2.1, hF⟩
end Jvm.Pilot.@@N@@
namespace Jvm.Pilot.@@N@@
open Jvm Jvm.ClassFile Sem Op Lib Jvm.Free Jvm.Stand Jvm.Pilot.@@N@@.Jvm.D
/-! MADE BY PROGRAM (witnessworld.py) out of the Statement's table words and the real class files: 21 classes; the members and pool entries that the words name. The judged class is class 1, her method 1. -/
namespace start1
open Jvm.ClassFile
def u (s : String) : CpInfo := .utf8 (stringToUtf16 s)
/-- a pool by its gaps: so many unusable entries, then the entry; so many at the end -/
def gap : Nat → List CpInfo → List CpInfo
  | 0, r => r
  | n + 1, r => .unusable :: gap n r
def poolList (es : List (Nat × CpInfo)) (last : Nat) : List CpInfo := es.foldr (fun e r => gap e.1 (e.2 :: r)) (gap last [])
def pool (es : List (Nat × CpInfo)) (last : Nat) : Array CpInfo := ⟨poolList es last⟩
def fileOf (pool : Array CpInfo) (this : Nat) (attrs : Array Attribute := #[]) (ms : Array MethodInfo := #[]) (fl : Nat := 33) (sup : Nat := 0) (ifs : Array Nat := #[]) (fds : Array FieldInfo := #[]) : ClassFile where
  minorVersion := 0
  majorVersion := 65
  constantPool := pool
  accessFlags := fl
  thisClass := this
  superClass := sup
  interfaces := ifs
  fields := fds
  methods := ms
  attributes := attrs
def plain (name : String) (sup : Option ClassId) : Class where
  name := name
  kind := .ordinary
  loader := none
  accessFlags := 33
  super := sup
  interfaces := #[]
  cf := none
  fields := #[]
  methods := #[]
  instanceTypes := #[]
  staticTypes := #[]
  resolved := #[]
  callSites := []
  init := .initialized
  statics := none
  mirror := none

def pool0 : Array CpInfo := pool [(5, u "<init>"), (0, u "()V"), (1, .class_ 10), (1, u "java/lang/Object"), (85, u "clone"), (0, u "()Ljava/lang/Object;")] 26

def k0c0 : Code := { maxStack := 0, maxLocals := 1, code := object_method_1_code, exceptionTable := #[], attributes := #[] }
def k0m0 : Method := { name := "<init>", desc := "()V", sig := { parameters := [], returnType := none }, accessFlags := 1, code := some k0c0 }
def k0m1 : Method := { name := "clone", desc := "()Ljava/lang/Object;", sig := { parameters := [], returnType := some (.object "java/lang/Object") }, accessFlags := 260, code := none }
/-- java/lang/Object -/
def k0 : Class := { plain "java/lang/Object" none with
  accessFlags := 33
  interfaces := #[]
  cf := some (fileOf pool0 8 #[] #[{ accessFlags := 1, nameIndex := 5, descriptorIndex := 6, attributes := #[] }, { accessFlags := 260, nameIndex := 96, descriptorIndex := 97, attributes := #[] }] 33 0 #[] #[])
  fields := #[]
  methods := #[k0m0, k0m1]
  instanceTypes := #[]
  staticTypes := #[]
  resolved := Array.replicate 124 none
  statics := none }

def pool1 : Array CpInfo := pool [(2, .class_ 4), (1, u "java/lang/Object"), (0, u "<init>"), (0, u "()V"), (0, .integer 2147483647), (0, .class_ 9), (0, u "com/example/shardloom/shardloom/VertexSet"), (0, .methodref 8 11), (0, .nameAndType 5 12), (0, u "(I)V"), (0, .methodref 8 14), (0, .nameAndType 15 12), (0, u "add"), (0, .methodref 8 17), (0, .nameAndType 18 19), (0, u "takeAscending"), (0, u "()[I"), (0, .methodref 21 22), (0, .class_ 23), (0, .nameAndType 24 25), (0, u "java/lang/Math"), (0, u "min"), (0, u "(II)I"), (0, .methodref 21 27), (0, .nameAndType 28 25), (0, u "max"), (0, .methodref 30 31), (0, .class_ 32), (0, .nameAndType 33 34), (0, u "com/example/shardloom/shardloom/VertexSetAddPinLaw"), (0, u "same"), (0, u "([I[II)Z"), (0, .methodref 8 36), (0, .nameAndType 37 19), (0, u "takeAll"), (2, u "law"), (0, u "(IIIII)Z")] 5

def k1m0 : Method := { name := "<init>", desc := "()V", sig := { parameters := [], returnType := none }, accessFlags := 1, code := none }
def k1c1 : Code := { maxStack := 3, maxLocals := 20, code := code, exceptionTable := #[], attributes := #[] }
def k1m1 : Method := { name := "law", desc := "(IIIII)Z", sig := { parameters := [.int, .int, .int, .int, .int], returnType := some .boolean }, accessFlags := 9, code := some k1c1 }
def k1c2 : Code := { maxStack := 3, maxLocals := 3, code := method_3_code, exceptionTable := #[], attributes := #[] }
def k1m2 : Method := { name := "same", desc := "([I[II)Z", sig := { parameters := [(.array .int), (.array .int), .int], returnType := some .boolean }, accessFlags := 10, code := some k1c2 }
/-- com/example/shardloom/shardloom/VertexSetAddPinLaw -/
def k1 : Class := { plain "com/example/shardloom/shardloom/VertexSetAddPinLaw" (some 0) with
  accessFlags := 49
  interfaces := #[]
  cf := some (fileOf pool1 30 #[] #[{ accessFlags := 1, nameIndex := 5, descriptorIndex := 6, attributes := #[] }, { accessFlags := 9, nameIndex := 40, descriptorIndex := 41, attributes := #[] }, { accessFlags := 10, nameIndex := 33, descriptorIndex := 34, attributes := #[] }] 49 2 #[] #[])
  fields := #[]
  methods := #[k1m0, k1m1, k1m2]
  instanceTypes := #[]
  staticTypes := #[]
  resolved := Array.replicate 47 none
  statics := none }

def pool2 : Array CpInfo := pool [(1, .methodref 2 3), (0, .class_ 4), (0, .nameAndType 5 6), (0, u "java/lang/Object"), (0, u "<init>"), (0, u "()V"), (0, .fieldref 8 9), (0, .class_ 10), (0, .nameAndType 11 12), (0, u "com/example/shardloom/shardloom/VertexSet"), (0, u "vertices"), (0, u "[I"), (0, .class_ 14), (0, u "java/lang/Long"), (0, .fieldref 8 16), (0, .nameAndType 17 18), (0, u "held"), (0, u "[J"), (0, .fieldref 8 20), (0, .nameAndType 21 12), (0, u "words"), (0, .fieldref 8 23), (0, .nameAndType 24 25), (0, u "wordCount"), (0, u "I"), (0, .fieldref 8 27), (0, .nameAndType 28 25), (0, u "size"), (0, .methodref 30 31), (0, .class_ 32), (0, .nameAndType 33 34), (0, u "java/util/Arrays"), (0, u "copyOf"), (0, u "([II)[I"), (0, .methodref 8 36), (0, .nameAndType 37 6), (0, u "clear"), (0, .methodref 30 39), (0, .nameAndType 40 41), (0, u "sort"), (0, u "([III)V"), (0, .methodref 13 43), (0, .nameAndType 44 45), (0, u "numberOfTrailingZeros"), (0, u "(J)I"), (0, u "(I)V"), (2, u "add"), (1, u "takeAll"), (0, u "()[I"), (0, u "takeAscending")] 3

def k2c0 : Code := { maxStack := 3, maxLocals := 2, code := prog_91_method_1_code, exceptionTable := #[], attributes := #[] }
def k2m0 : Method := { name := "<init>", desc := "(I)V", sig := { parameters := [.int], returnType := none }, accessFlags := 0, code := some k2c0 }
def k2c1 : Code := { maxStack := 6, maxLocals := 5, code := prog_91_method_2_code, exceptionTable := #[], attributes := #[] }
def k2m1 : Method := { name := "add", desc := "(I)V", sig := { parameters := [.int], returnType := none }, accessFlags := 0, code := some k2c1 }
def k2c2 : Code := { maxStack := 2, maxLocals := 2, code := prog_91_method_3_code, exceptionTable := #[], attributes := #[] }
def k2m2 : Method := { name := "takeAll", desc := "()[I", sig := { parameters := [], returnType := some (.array .int) }, accessFlags := 0, code := some k2c2 }
def k2c3 : Code := { maxStack := 6, maxLocals := 6, code := prog_91_method_4_code, exceptionTable := #[], attributes := #[] }
def k2m3 : Method := { name := "takeAscending", desc := "()[I", sig := { parameters := [], returnType := some (.array .int) }, accessFlags := 0, code := some k2c3 }
def k2c4 : Code := { maxStack := 4, maxLocals := 2, code := prog_91_method_5_code, exceptionTable := #[], attributes := #[] }
def k2m4 : Method := { name := "clear", desc := "()V", sig := { parameters := [], returnType := none }, accessFlags := 2, code := some k2c4 }
/-- com/example/shardloom/shardloom/VertexSet -/
def k2 : Class := { plain "com/example/shardloom/shardloom/VertexSet" (some 0) with
  accessFlags := 48
  interfaces := #[]
  cf := some (fileOf pool2 8 #[] #[{ accessFlags := 0, nameIndex := 5, descriptorIndex := 46, attributes := #[] }, { accessFlags := 0, nameIndex := 49, descriptorIndex := 46, attributes := #[] }, { accessFlags := 0, nameIndex := 51, descriptorIndex := 52, attributes := #[] }, { accessFlags := 0, nameIndex := 53, descriptorIndex := 52, attributes := #[] }, { accessFlags := 2, nameIndex := 37, descriptorIndex := 6, attributes := #[] }] 48 2 #[] #[{ accessFlags := 18, nameIndex := 11, descriptorIndex := 12, attributes := #[] }, { accessFlags := 18, nameIndex := 17, descriptorIndex := 18, attributes := #[] }, { accessFlags := 18, nameIndex := 21, descriptorIndex := 12, attributes := #[] }, { accessFlags := 2, nameIndex := 28, descriptorIndex := 25, attributes := #[] }, { accessFlags := 2, nameIndex := 24, descriptorIndex := 25, attributes := #[] }])
  fields := #[{ name := "vertices", type := (.array .int), accessFlags := 18, slot := 0, constantValue := 0 }, { name := "held", type := (.array .long), accessFlags := 18, slot := 1, constantValue := 0 }, { name := "words", type := (.array .int), accessFlags := 18, slot := 2, constantValue := 0 }, { name := "size", type := .int, accessFlags := 2, slot := 3, constantValue := 0 }, { name := "wordCount", type := .int, accessFlags := 2, slot := 4, constantValue := 0 }]
  methods := #[k2m0, k2m1, k2m2, k2m3, k2m4]
  instanceTypes := #[(.array .int), (.array .long), (.array .int), .int, .int]
  staticTypes := #[]
  resolved := Array.replicate 57 none
  statics := none }

def pool3 : Array CpInfo := pool [(2, .class_ 4), (1, u "java/lang/Object"), (0, u "<init>"), (0, u "()V"), (0, .methodref 8 9), (0, .class_ 10), (0, .nameAndType 11 12), (0, u "java/util/DualPivotQuicksort"), (0, u "sort"), (0, u "([IIII)V"), (0, .methodref 14 15), (0, .class_ 16), (0, .nameAndType 17 18), (0, u "java/util/Arrays"), (0, u "rangeCheck"), (0, u "(III)V"), (55, .class_ 76), (1, u "java/util/Arrays$NaturalOrder"), (32, u "()Ljava/lang/Object;"), (3, .class_ 115), (1, u "java/util/Arrays$LegacyMergeSort"), (1, u "Z"), (10, .nameAndType 129 109), (0, u "clone"), (20, .methodref 151 152), (0, .class_ 153), (0, .nameAndType 154 155), (0, u "java/lang/System"), (0, u "arraycopy"), (0, u "(Ljava/lang/Object;ILjava/lang/Object;II)V"), (146, u "copyOf"), (1, .methodref 305 306), (0, .class_ 307), (0, .nameAndType 308 309), (0, u "java/lang/Math"), (0, u "min"), (0, u "(II)I"), (6, .methodref 317 128), (0, .class_ 318), (0, u "[I"), (56, .class_ 376), (0, u "java/util/Arrays$ArrayList"), (68, u "$assertionsDisabled"), (269, u "MIN_ARRAY_SORT_GRAN"), (0, u "I"), (2, u "INSERTIONSORT_THRESHOLD"), (8, u "([III)V"), (142, u "([II)[I"), (103, .class_ 976), (0, u "java/util/Arrays$ArrayItr")] 52

def k3m0 : Method := { name := "<init>", desc := "()V", sig := { parameters := [], returnType := none }, accessFlags := 2, code := none }
def k3c1 : Code := { maxStack := 4, maxLocals := 3, code := jdk_65_method_3_code, exceptionTable := #[], attributes := #[] }
def k3m1 : Method := { name := "sort", desc := "([III)V", sig := { parameters := [(.array .int), .int, .int], returnType := none }, accessFlags := 9, code := some k3c1 }
def k3c2 : Code := { maxStack := 4, maxLocals := 3, code := jdk_65_method_30_code, exceptionTable := #[], attributes := #[] }
def k3m2 : Method := { name := "rangeCheck", desc := "(III)V", sig := { parameters := [.int, .int, .int], returnType := none }, accessFlags := 8, code := some k3c2 }
def k3c3 : Code := { maxStack := 6, maxLocals := 3, code := jdk_65_method_123_code, exceptionTable := #[], attributes := #[] }
def k3m3 : Method := { name := "copyOf", desc := "([II)[I", sig := { parameters := [(.array .int), .int], returnType := some (.array .int) }, accessFlags := 9, code := some k3c3 }
/-- java/util/Arrays -/
def k3 : Class := { plain "java/util/Arrays" (some 0) with
  accessFlags := 49
  interfaces := #[]
  cf := some (fileOf pool3 14 #[.nestMembers #[975, 375, 113, 74]] #[{ accessFlags := 2, nameIndex := 5, descriptorIndex := 6, attributes := #[] }, { accessFlags := 9, nameIndex := 11, descriptorIndex := 728, attributes := #[] }, { accessFlags := 8, nameIndex := 17, descriptorIndex := 18, attributes := #[] }, { accessFlags := 9, nameIndex := 302, descriptorIndex := 871, attributes := #[] }] 49 2 #[] #[{ accessFlags := 26, nameIndex := 715, descriptorIndex := 716, attributes := #[] }, { accessFlags := 26, nameIndex := 719, descriptorIndex := 716, attributes := #[] }, { accessFlags := 4120, nameIndex := 445, descriptorIndex := 117, attributes := #[] }])
  fields := #[{ name := "MIN_ARRAY_SORT_GRAN", type := .int, accessFlags := 26, slot := 0, constantValue := 0 }, { name := "INSERTIONSORT_THRESHOLD", type := .int, accessFlags := 26, slot := 1, constantValue := 0 }, { name := "$assertionsDisabled", type := .boolean, accessFlags := 4120, slot := 2, constantValue := 0 }]
  methods := #[k3m0, k3m1, k3m2, k3m3]
  instanceTypes := #[]
  staticTypes := #[.int, .int, .boolean]
  resolved := Array.replicate 1029 none
  statics := none }

def pool4 : Array CpInfo := pool [(1, .class_ 2), (0, u "java/util/DualPivotQuicksort"), (5, .class_ 10), (1, u "java/lang/Object"), (0, u "<init>"), (0, u "()V"), (4, .class_ 18), (0, u "java/util/DualPivotQuicksort$Sorter"), (7, .methodref 1 27), (0, .nameAndType 28 29), (0, u "sort"), (0, u "(Ljava/util/DualPivotQuicksort$Sorter;[IIII)V"), (3, u "([IIII)V"), (0, .methodref 1 35), (0, .nameAndType 36 37), (0, u "insertionSort"), (0, u "([III)V"), (30, u "I"), (4, .class_ 74), (0, u "java/util/DualPivotQuicksort$RunMerger"), (10, .class_ 86), (0, u "java/util/DualPivotQuicksort$Merger"), (127, u "MAX_MIXED_INSERTION_SORT_SIZE"), (2, u "MAX_INSERTION_SORT_SIZE"), (1, u "MIN_PARALLEL_SORT_SIZE"), (1, u "MIN_TRY_MERGE_SIZE"), (0, u "MIN_FIRST_RUN_SIZE"), (1, u "MIN_FIRST_RUNS_FACTOR"), (1, u "MAX_RUN_CAPACITY"), (1, u "MIN_RUN_COUNT"), (1, u "MIN_PARALLEL_MERGE_PARTS_SIZE"), (0, u "MIN_BYTE_COUNTING_SORT_SIZE"), (1, u "MIN_SHORT_OR_CHAR_COUNTING_SORT_SIZE"), (1, u "DELTA"), (1, u "MAX_RECURSION_DEPTH"), (1, u "NUM_BYTE_VALUES"), (1, u "MAX_BYTE_INDEX"), (0, u "NUM_CHAR_VALUES"), (0, u "NUM_SHORT_VALUES"), (0, u "MAX_SHORT_INDEX")] 86

def k4m0 : Method := { name := "<init>", desc := "()V", sig := { parameters := [], returnType := none }, accessFlags := 2, code := none }
def k4c1 : Code := { maxStack := 9, maxLocals := 7, code := jdk_2529_method_3_code, exceptionTable := #[], attributes := #[] }
def k4m1 : Method := { name := "sort", desc := "([IIII)V", sig := { parameters := [(.array .int), .int, .int, .int], returnType := none }, accessFlags := 8, code := some k4c1 }
def k4c2 : Code := { maxStack := 6, maxLocals := 21, code := jdk_2529_method_4_code, exceptionTable := #[], attributes := #[] }
def k4m2 : Method := { name := "sort", desc := "(Ljava/util/DualPivotQuicksort$Sorter;[IIII)V", sig := { parameters := [(.object "java/util/DualPivotQuicksort$Sorter"), (.array .int), .int, .int, .int], returnType := none }, accessFlags := 8, code := some k4c2 }
def k4c3 : Code := { maxStack := 4, maxLocals := 6, code := jdk_2529_method_6_code, exceptionTable := #[], attributes := #[] }
def k4m3 : Method := { name := "insertionSort", desc := "([III)V", sig := { parameters := [(.array .int), .int, .int], returnType := none }, accessFlags := 10, code := some k4c3 }
/-- java/util/DualPivotQuicksort -/
def k4 : Class := { plain "java/util/DualPivotQuicksort" (some 0) with
  accessFlags := 48
  interfaces := #[]
  cf := some (fileOf pool4 1 #[.nestMembers #[73, 85, 17]] #[{ accessFlags := 2, nameIndex := 11, descriptorIndex := 12, attributes := #[] }, { accessFlags := 8, nameIndex := 28, descriptorIndex := 33, attributes := #[] }, { accessFlags := 8, nameIndex := 28, descriptorIndex := 29, attributes := #[] }, { accessFlags := 10, nameIndex := 36, descriptorIndex := 37, attributes := #[] }] 48 8 #[] #[{ accessFlags := 26, nameIndex := 214, descriptorIndex := 68, attributes := #[] }, { accessFlags := 26, nameIndex := 217, descriptorIndex := 68, attributes := #[] }, { accessFlags := 26, nameIndex := 219, descriptorIndex := 68, attributes := #[] }, { accessFlags := 26, nameIndex := 221, descriptorIndex := 68, attributes := #[] }, { accessFlags := 26, nameIndex := 222, descriptorIndex := 68, attributes := #[] }, { accessFlags := 26, nameIndex := 224, descriptorIndex := 68, attributes := #[] }, { accessFlags := 26, nameIndex := 226, descriptorIndex := 68, attributes := #[] }, { accessFlags := 26, nameIndex := 228, descriptorIndex := 68, attributes := #[] }, { accessFlags := 26, nameIndex := 230, descriptorIndex := 68, attributes := #[] }, { accessFlags := 26, nameIndex := 231, descriptorIndex := 68, attributes := #[] }, { accessFlags := 26, nameIndex := 233, descriptorIndex := 68, attributes := #[] }, { accessFlags := 26, nameIndex := 235, descriptorIndex := 68, attributes := #[] }, { accessFlags := 26, nameIndex := 237, descriptorIndex := 68, attributes := #[] }, { accessFlags := 26, nameIndex := 239, descriptorIndex := 68, attributes := #[] }, { accessFlags := 26, nameIndex := 241, descriptorIndex := 68, attributes := #[] }, { accessFlags := 26, nameIndex := 242, descriptorIndex := 68, attributes := #[] }, { accessFlags := 26, nameIndex := 243, descriptorIndex := 68, attributes := #[] }, { accessFlags := 26, nameIndex := 244, descriptorIndex := 68, attributes := #[] }])
  fields := #[{ name := "MAX_MIXED_INSERTION_SORT_SIZE", type := .int, accessFlags := 26, slot := 0, constantValue := 0 }, { name := "MAX_INSERTION_SORT_SIZE", type := .int, accessFlags := 26, slot := 1, constantValue := 0 }, { name := "MIN_PARALLEL_SORT_SIZE", type := .int, accessFlags := 26, slot := 2, constantValue := 0 }, { name := "MIN_TRY_MERGE_SIZE", type := .int, accessFlags := 26, slot := 3, constantValue := 0 }, { name := "MIN_FIRST_RUN_SIZE", type := .int, accessFlags := 26, slot := 4, constantValue := 0 }, { name := "MIN_FIRST_RUNS_FACTOR", type := .int, accessFlags := 26, slot := 5, constantValue := 0 }, { name := "MAX_RUN_CAPACITY", type := .int, accessFlags := 26, slot := 6, constantValue := 0 }, { name := "MIN_RUN_COUNT", type := .int, accessFlags := 26, slot := 7, constantValue := 0 }, { name := "MIN_PARALLEL_MERGE_PARTS_SIZE", type := .int, accessFlags := 26, slot := 8, constantValue := 0 }, { name := "MIN_BYTE_COUNTING_SORT_SIZE", type := .int, accessFlags := 26, slot := 9, constantValue := 0 }, { name := "MIN_SHORT_OR_CHAR_COUNTING_SORT_SIZE", type := .int, accessFlags := 26, slot := 10, constantValue := 0 }, { name := "DELTA", type := .int, accessFlags := 26, slot := 11, constantValue := 0 }, { name := "MAX_RECURSION_DEPTH", type := .int, accessFlags := 26, slot := 12, constantValue := 0 }, { name := "NUM_BYTE_VALUES", type := .int, accessFlags := 26, slot := 13, constantValue := 0 }, { name := "MAX_BYTE_INDEX", type := .int, accessFlags := 26, slot := 14, constantValue := 0 }, { name := "NUM_CHAR_VALUES", type := .int, accessFlags := 26, slot := 15, constantValue := 0 }, { name := "NUM_SHORT_VALUES", type := .int, accessFlags := 26, slot := 16, constantValue := 0 }, { name := "MAX_SHORT_INDEX", type := .int, accessFlags := 26, slot := 17, constantValue := 0 }]
  methods := #[k4m0, k4m1, k4m2, k4m3]
  instanceTypes := #[]
  staticTypes := #[.int, .int, .int, .int, .int, .int, .int, .int, .int, .int, .int, .int, .int, .int, .int, .int, .int, .int]
  resolved := Array.replicate 331 none
  statics := none }

def pool5 : Array CpInfo := pool [(1, .class_ 2), (0, u "java/io/Serializable"), (0, .class_ 4), (0, u "java/lang/Object")] 2

/-- java/io/Serializable -/
def k5 : Class := { plain "java/io/Serializable" (some 0) with
  accessFlags := 1537
  interfaces := #[]
  cf := some (fileOf pool5 1 #[] #[] 1537 3 #[] #[])
  fields := #[]
  methods := #[]
  instanceTypes := #[]
  staticTypes := #[]
  resolved := Array.replicate 7 none
  statics := none }

def pool6 : Array CpInfo := pool [(2, .class_ 4), (1, u "java/lang/Object"), (0, u "<init>"), (0, u "()V"), (1, .class_ 10), (1, u "java/lang/Number"), (2, .class_ 14), (0, u "java/io/Serializable"), (0, u "serialVersionUID"), (0, u "J")] 20

def k6m0 : Method := { name := "<init>", desc := "()V", sig := { parameters := [], returnType := none }, accessFlags := 1, code := none }
/-- java/lang/Number -/
def k6 : Class := { plain "java/lang/Number" (some 0) with
  accessFlags := 1057
  interfaces := #[5]
  cf := some (fileOf pool6 8 #[] #[{ accessFlags := 1, nameIndex := 5, descriptorIndex := 6, attributes := #[] }] 1057 2 #[13] #[{ accessFlags := 26, nameIndex := 15, descriptorIndex := 16, attributes := #[] }])
  fields := #[{ name := "serialVersionUID", type := .long, accessFlags := 26, slot := 0, constantValue := 0 }]
  methods := #[k6m0]
  instanceTypes := #[]
  staticTypes := #[.long]
  resolved := Array.replicate 37 none
  statics := none }

def pool7 : Array CpInfo := pool [(1, .class_ 2), (0, u "java/lang/Comparable"), (0, .class_ 4), (0, u "java/lang/Object")] 7

/-- java/lang/Comparable -/
def k7 : Class := { plain "java/lang/Comparable" (some 0) with
  accessFlags := 1537
  interfaces := #[]
  cf := some (fileOf pool7 1 #[] #[] 1537 3 #[] #[])
  fields := #[]
  methods := #[]
  instanceTypes := #[]
  staticTypes := #[]
  resolved := Array.replicate 12 none
  statics := none }

def pool8 : Array CpInfo := pool [(1, .class_ 2), (0, u "java/lang/constant/Constable"), (0, .class_ 4), (0, u "java/lang/Object")] 6

/-- java/lang/constant/Constable -/
def k8 : Class := { plain "java/lang/constant/Constable" (some 0) with
  accessFlags := 1537
  interfaces := #[]
  cf := some (fileOf pool8 1 #[] #[] 1537 3 #[] #[])
  fields := #[]
  methods := #[]
  instanceTypes := #[]
  staticTypes := #[]
  resolved := Array.replicate 11 none
  statics := none }

def pool9 : Array CpInfo := pool [(1, .class_ 2), (0, u "java/lang/constant/ConstantDesc"), (0, .class_ 4), (0, u "java/lang/Object")] 32

/-- java/lang/constant/ConstantDesc -/
def k9 : Class := { plain "java/lang/constant/ConstantDesc" (some 0) with
  accessFlags := 1537
  interfaces := #[]
  cf := some (fileOf pool9 1 #[] #[] 1537 3 #[] #[])
  fields := #[]
  methods := #[]
  instanceTypes := #[]
  staticTypes := #[]
  resolved := Array.replicate 37 none
  statics := none }

def pool10 : Array CpInfo := pool [(1, .class_ 2), (0, u "java/lang/Long"), (15, .class_ 20), (1, u "java/lang/Integer"), (80, u "(J)I"), (133, .class_ 237), (1, u "java/lang/Long$LongCache"), (33, .class_ 272), (0, u "java/lang/Number"), (2, u "value"), (0, u "J"), (33, u "(I)I"), (0, .methodref 18 312), (0, .nameAndType 313 310), (0, u "numberOfTrailingZeros"), (47, u "TYPE"), (0, u "Ljava/lang/Class;"), (0, .class_ 364), (0, u "java/lang/Comparable"), (0, .class_ 366), (0, u "java/lang/constant/Constable"), (0, .class_ 368), (0, u "java/lang/constant/ConstantDesc"), (0, u "MIN_VALUE"), (1, u "MAX_VALUE"), (4, u "SIZE"), (0, u "I"), (1, u "BYTES"), (1, u "serialVersionUID")] 142

def k10c0 : Code := { maxStack := 4, maxLocals := 3, code := jdk_35_method_49_code, exceptionTable := #[], attributes := #[] }
def k10m0 : Method := { name := "numberOfTrailingZeros", desc := "(J)I", sig := { parameters := [.long], returnType := some .int }, accessFlags := 9, code := some k10c0 }
/-- java/lang/Long -/
def k10 : Class := { plain "java/lang/Long" (some 6) with
  accessFlags := 49
  interfaces := #[7, 8, 9]
  cf := some (fileOf pool10 1 #[.nestMembers #[235]] #[{ accessFlags := 9, nameIndex := 313, descriptorIndex := 101, attributes := #[] }] 49 271 #[363, 365, 367] #[{ accessFlags := 25, nameIndex := 369, descriptorIndex := 276, attributes := #[] }, { accessFlags := 25, nameIndex := 371, descriptorIndex := 276, attributes := #[] }, { accessFlags := 25, nameIndex := 361, descriptorIndex := 362, attributes := #[] }, { accessFlags := 18, nameIndex := 275, descriptorIndex := 276, attributes := #[] }, { accessFlags := 25, nameIndex := 376, descriptorIndex := 377, attributes := #[] }, { accessFlags := 25, nameIndex := 379, descriptorIndex := 377, attributes := #[] }, { accessFlags := 26, nameIndex := 381, descriptorIndex := 276, attributes := #[] }])
  fields := #[{ name := "MIN_VALUE", type := .long, accessFlags := 25, slot := 0, constantValue := 0 }, { name := "MAX_VALUE", type := .long, accessFlags := 25, slot := 1, constantValue := 0 }, { name := "TYPE", type := (.object "java/lang/Class"), accessFlags := 25, slot := 2, constantValue := 0 }, { name := "value", type := .long, accessFlags := 18, slot := 0, constantValue := 0 }, { name := "SIZE", type := .int, accessFlags := 25, slot := 3, constantValue := 0 }, { name := "BYTES", type := .int, accessFlags := 25, slot := 4, constantValue := 0 }, { name := "serialVersionUID", type := .long, accessFlags := 26, slot := 5, constantValue := 0 }]
  methods := #[k10m0]
  instanceTypes := #[.long]
  staticTypes := #[.long, .long, (.object "java/lang/Class"), .int, .int, .long]
  resolved := Array.replicate 524 none
  statics := none }

def pool11 : Array CpInfo := pool [(1, .class_ 2), (0, u "java/lang/Integer"), (16, u "digits"), (0, u "[C"), (33, u "(I)I"), (30, u "DigitOnes"), (0, u "[B"), (2, u "DigitTens"), (99, .class_ 190), (0, u "java/lang/Integer$IntegerCache"), (3, u "I"), (8, .class_ 204), (0, u "java/lang/Number"), (2, u "value"), (56, .integer 65536), (37, u "TYPE"), (0, u "Ljava/lang/Class;"), (0, .class_ 305), (0, u "java/lang/Comparable"), (0, .class_ 307), (0, u "java/lang/constant/Constable"), (0, .class_ 309), (0, u "java/lang/constant/ConstantDesc"), (0, u "MIN_VALUE"), (1, u "MAX_VALUE"), (3, u "SIZE"), (1, u "BYTES"), (1, u "serialVersionUID"), (0, u "J"), (84, u "numberOfTrailingZeros")] 46

def k11c0 : Code := { maxStack := 3, maxLocals := 2, code := jdk_33_method_48_code, exceptionTable := #[], attributes := #[] }
def k11m0 : Method := { name := "numberOfTrailingZeros", desc := "(I)I", sig := { parameters := [.int], returnType := some .int }, accessFlags := 9, code := some k11c0 }
/-- java/lang/Integer -/
def k11 : Class := { plain "java/lang/Integer" (some 6) with
  accessFlags := 49
  interfaces := #[7, 8, 9]
  cf := some (fileOf pool11 1 #[.nestMembers #[189]] #[{ accessFlags := 9, nameIndex := 406, descriptorIndex := 54, attributes := #[] }] 49 203 #[304, 306, 308] #[{ accessFlags := 25, nameIndex := 310, descriptorIndex := 194, attributes := #[] }, { accessFlags := 25, nameIndex := 312, descriptorIndex := 194, attributes := #[] }, { accessFlags := 25, nameIndex := 302, descriptorIndex := 303, attributes := #[] }, { accessFlags := 24, nameIndex := 19, descriptorIndex := 20, attributes := #[] }, { accessFlags := 24, nameIndex := 89, descriptorIndex := 86, attributes := #[] }, { accessFlags := 24, nameIndex := 85, descriptorIndex := 86, attributes := #[] }, { accessFlags := 18, nameIndex := 207, descriptorIndex := 194, attributes := #[] }, { accessFlags := 25, nameIndex := 316, descriptorIndex := 194, attributes := #[] }, { accessFlags := 25, nameIndex := 318, descriptorIndex := 194, attributes := #[] }, { accessFlags := 26, nameIndex := 320, descriptorIndex := 321, attributes := #[] }])
  fields := #[{ name := "MIN_VALUE", type := .int, accessFlags := 25, slot := 0, constantValue := 0 }, { name := "MAX_VALUE", type := .int, accessFlags := 25, slot := 1, constantValue := 0 }, { name := "TYPE", type := (.object "java/lang/Class"), accessFlags := 25, slot := 2, constantValue := 0 }, { name := "digits", type := (.array .char), accessFlags := 24, slot := 3, constantValue := 0 }, { name := "DigitTens", type := (.array .byte), accessFlags := 24, slot := 4, constantValue := 0 }, { name := "DigitOnes", type := (.array .byte), accessFlags := 24, slot := 5, constantValue := 0 }, { name := "value", type := .int, accessFlags := 18, slot := 0, constantValue := 0 }, { name := "SIZE", type := .int, accessFlags := 25, slot := 6, constantValue := 0 }, { name := "BYTES", type := .int, accessFlags := 25, slot := 7, constantValue := 0 }, { name := "serialVersionUID", type := .long, accessFlags := 26, slot := 8, constantValue := 0 }]
  methods := #[k11m0]
  instanceTypes := #[.int]
  staticTypes := #[.int, .int, (.object "java/lang/Class"), (.array .char), (.array .byte), (.array .byte), .int, .int, .long]
  resolved := Array.replicate 453 none
  statics := none }

def pool12 : Array CpInfo := pool [(1, .class_ 2), (0, u "java/lang/Math"), (1, .class_ 6), (1, u "java/lang/Object"), (0, u "<init>"), (0, u "()V"), (89, .class_ 100), (1, u "java/lang/Math$RandomNumberGeneratorHolder"), (71, u "negativeZeroFloatBits"), (0, u "J"), (2, u "negativeZeroDoubleBits"), (21, u "max"), (2, u "min"), (43, u "$assertionsDisabled"), (0, u "Z"), (88, u "(II)I"), (2, u "twoToTheDoubleScaleDown"), (0, u "D"), (4, u "twoToTheDoubleScaleUp"), (9, u "E"), (3, u "PI"), (2, u "TAU"), (2, u "DEGREES_TO_RADIANS"), (0, u "RADIANS_TO_DEGREES")] 94

def k12m0 : Method := { name := "<init>", desc := "()V", sig := { parameters := [], returnType := none }, accessFlags := 2, code := none }
def k12c1 : Code := { maxStack := 2, maxLocals := 2, code := jdk_29_method_65_code, exceptionTable := #[], attributes := #[] }
def k12m1 : Method := { name := "max", desc := "(II)I", sig := { parameters := [.int, .int], returnType := some .int }, accessFlags := 9, code := some k12c1 }
def k12c2 : Code := { maxStack := 2, maxLocals := 2, code := jdk_29_method_69_code, exceptionTable := #[], attributes := #[] }
def k12m2 : Method := { name := "min", desc := "(II)I", sig := { parameters := [.int, .int], returnType := some .int }, accessFlags := 9, code := some k12c2 }
/-- java/lang/Math -/
def k12 : Class := { plain "java/lang/Math" (some 0) with
  accessFlags := 49
  interfaces := #[]
  cf := some (fileOf pool12 1 #[.nestMembers #[98]] #[{ accessFlags := 2, nameIndex := 7, descriptorIndex := 8, attributes := #[] }, { accessFlags := 9, nameIndex := 198, descriptorIndex := 335, attributes := #[] }, { accessFlags := 9, nameIndex := 201, descriptorIndex := 335, attributes := #[] }] 49 4 #[] #[{ accessFlags := 25, nameIndex := 354, descriptorIndex := 339, attributes := #[] }, { accessFlags := 25, nameIndex := 358, descriptorIndex := 339, attributes := #[] }, { accessFlags := 25, nameIndex := 361, descriptorIndex := 339, attributes := #[] }, { accessFlags := 26, nameIndex := 364, descriptorIndex := 339, attributes := #[] }, { accessFlags := 26, nameIndex := 365, descriptorIndex := 339, attributes := #[] }, { accessFlags := 26, nameIndex := 172, descriptorIndex := 173, attributes := #[] }, { accessFlags := 26, nameIndex := 176, descriptorIndex := 173, attributes := #[] }, { accessFlags := 8, nameIndex := 344, descriptorIndex := 339, attributes := #[] }, { accessFlags := 8, nameIndex := 338, descriptorIndex := 339, attributes := #[] }, { accessFlags := 4120, nameIndex := 245, descriptorIndex := 246, attributes := #[] }])
  fields := #[{ name := "E", type := .double, accessFlags := 25, slot := 0, constantValue := 0 }, { name := "PI", type := .double, accessFlags := 25, slot := 1, constantValue := 0 }, { name := "TAU", type := .double, accessFlags := 25, slot := 2, constantValue := 0 }, { name := "DEGREES_TO_RADIANS", type := .double, accessFlags := 26, slot := 3, constantValue := 0 }, { name := "RADIANS_TO_DEGREES", type := .double, accessFlags := 26, slot := 4, constantValue := 0 }, { name := "negativeZeroFloatBits", type := .long, accessFlags := 26, slot := 5, constantValue := 0 }, { name := "negativeZeroDoubleBits", type := .long, accessFlags := 26, slot := 6, constantValue := 0 }, { name := "twoToTheDoubleScaleUp", type := .double, accessFlags := 8, slot := 7, constantValue := 0 }, { name := "twoToTheDoubleScaleDown", type := .double, accessFlags := 8, slot := 8, constantValue := 0 }, { name := "$assertionsDisabled", type := .boolean, accessFlags := 4120, slot := 9, constantValue := 0 }]
  methods := #[k12m0, k12m1, k12m2]
  instanceTypes := #[]
  staticTypes := #[.double, .double, .double, .double, .double, .long, .long, .double, .double, .boolean]
  resolved := Array.replicate 460 none
  statics := none }

def pool13 : Array CpInfo := pool [(1, .class_ 2), (0, u "java/lang/Cloneable"), (0, .class_ 4), (0, u "java/lang/Object")] 2

/-- java/lang/Cloneable -/
def k13 : Class := { plain "java/lang/Cloneable" (some 0) with
  accessFlags := 1537
  interfaces := #[]
  cf := some (fileOf pool13 1 #[] #[] 1537 3 #[] #[])
  fields := #[]
  methods := #[]
  instanceTypes := #[]
  staticTypes := #[]
  resolved := Array.replicate 7 none
  statics := none }

def pool14 : Array CpInfo := pool [(2, .class_ 4), (1, u "java/lang/Object"), (0, u "<init>"), (0, u "()V"), (1, .class_ 10), (1, u "java/lang/System"), (0, u "allowSecurityManager"), (0, u "I"), (16, u "cons"), (0, u "Ljava/io/Console;"), (77, .class_ 110), (1, u "java/lang/System$CallersHolder"), (43, u "initialErrStream"), (0, u "Ljava/io/PrintStream;"), (19, u "security"), (0, u "Ljava/lang/SecurityManager;"), (31, .class_ 209), (0, u "java/lang/System$1"), (7, u "props"), (0, u "Ljava/util/Properties;"), (2, u "lineSeparator"), (0, u "Ljava/lang/String;"), (96, .class_ 321), (1, u "java/lang/System$LoggerFinder"), (5, .class_ 328), (0, u "java/lang/System$Logger"), (67, u "err"), (2, u "out"), (91, u "notSupportedJnuEncoding"), (15, u "in"), (17, u "initialIn"), (0, u "Ljava/io/InputStream;"), (35, u "bootLayer"), (0, u "Ljava/lang/ModuleLayer;"), (99, .class_ 664), (0, u "java/lang/System$2"), (9, u "NEVER"), (2, u "MAYBE"), (49, u "arraycopy"), (0, u "(Ljava/lang/Object;ILjava/lang/Object;II)V"), (72, .class_ 802), (0, u "java/lang/System$Logger$Level")] 31

def k14m0 : Method := { name := "<init>", desc := "()V", sig := { parameters := [], returnType := none }, accessFlags := 2, code := none }
def k14m1 : Method := { name := "arraycopy", desc := "(Ljava/lang/Object;ILjava/lang/Object;II)V", sig := { parameters := [(.object "java/lang/Object"), .int, (.object "java/lang/Object"), .int, .int], returnType := none }, accessFlags := 265, code := none }
/-- java/lang/System -/
def k14 : Class := { plain "java/lang/System" (some 0) with
  accessFlags := 49
  interfaces := #[]
  cf := some (fileOf pool14 8 #[.nestMembers #[319, 327, 801, 108, 663, 208]] #[{ accessFlags := 2, nameIndex := 5, descriptorIndex := 6, attributes := #[] }, { accessFlags := 265, nameIndex := 727, descriptorIndex := 728, attributes := #[] }] 49 2 #[] #[{ accessFlags := 25, nameIndex := 507, descriptorIndex := 526, attributes := #[] }, { accessFlags := 25, nameIndex := 399, descriptorIndex := 155, attributes := #[] }, { accessFlags := 25, nameIndex := 396, descriptorIndex := 155, attributes := #[] }, { accessFlags := 10, nameIndex := 525, descriptorIndex := 526, attributes := #[] }, { accessFlags := 26, nameIndex := 674, descriptorIndex := 12, attributes := #[] }, { accessFlags := 26, nameIndex := 677, descriptorIndex := 12, attributes := #[] }, { accessFlags := 10, nameIndex := 11, descriptorIndex := 12, attributes := #[] }, { accessFlags := 74, nameIndex := 175, descriptorIndex := 176, attributes := #[] }, { accessFlags := 10, nameIndex := 491, descriptorIndex := 222, attributes := #[] }, { accessFlags := 74, nameIndex := 29, descriptorIndex := 30, attributes := #[] }, { accessFlags := 74, nameIndex := 154, descriptorIndex := 155, attributes := #[] }, { accessFlags := 10, nameIndex := 217, descriptorIndex := 218, attributes := #[] }, { accessFlags := 10, nameIndex := 221, descriptorIndex := 222, attributes := #[] }, { accessFlags := 8, nameIndex := 562, descriptorIndex := 563, attributes := #[] }])
  fields := #[{ name := "in", type := (.object "java/io/InputStream"), accessFlags := 25, slot := 0, constantValue := 0 }, { name := "out", type := (.object "java/io/PrintStream"), accessFlags := 25, slot := 1, constantValue := 0 }, { name := "err", type := (.object "java/io/PrintStream"), accessFlags := 25, slot := 2, constantValue := 0 }, { name := "initialIn", type := (.object "java/io/InputStream"), accessFlags := 10, slot := 3, constantValue := 0 }, { name := "NEVER", type := .int, accessFlags := 26, slot := 4, constantValue := 0 }, { name := "MAYBE", type := .int, accessFlags := 26, slot := 5, constantValue := 0 }, { name := "allowSecurityManager", type := .int, accessFlags := 10, slot := 6, constantValue := 0 }, { name := "security", type := (.object "java/lang/SecurityManager"), accessFlags := 74, slot := 7, constantValue := 0 }, { name := "notSupportedJnuEncoding", type := (.object "java/lang/String"), accessFlags := 10, slot := 8, constantValue := 0 }, { name := "cons", type := (.object "java/io/Console"), accessFlags := 74, slot := 9, constantValue := 0 }, { name := "initialErrStream", type := (.object "java/io/PrintStream"), accessFlags := 74, slot := 10, constantValue := 0 }, { name := "props", type := (.object "java/util/Properties"), accessFlags := 10, slot := 11, constantValue := 0 }, { name := "lineSeparator", type := (.object "java/lang/String"), accessFlags := 10, slot := 12, constantValue := 0 }, { name := "bootLayer", type := (.object "java/lang/ModuleLayer"), accessFlags := 8, slot := 13, constantValue := 0 }]
  methods := #[k14m0, k14m1]
  instanceTypes := #[]
  staticTypes := #[(.object "java/io/InputStream"), (.object "java/io/PrintStream"), (.object "java/io/PrintStream"), (.object "java/io/InputStream"), .int, .int, .int, (.object "java/lang/SecurityManager"), (.object "java/lang/String"), (.object "java/io/Console"), (.object "java/io/PrintStream"), (.object "java/util/Properties"), (.object "java/lang/String"), (.object "java/lang/ModuleLayer")]
  resolved := Array.replicate 834 none
  statics := none }

/-- the primitive byte -/
def k15 : Class := { plain "byte" none with kind := .primitive 'B', accessFlags := 0x411 }
/-- [B -/
def k16 : Class := { plain "[B" (some 0) with kind := .array 15 .byte, interfaces := #[13, 5], accessFlags := 1041 }

/-- the primitive int -/
def k17 : Class := { plain "int" none with kind := .primitive 'I', accessFlags := 0x411 }
/-- [I -/
def k18 : Class := { plain "[I" (some 0) with kind := .array 17 .int, interfaces := #[13, 5], accessFlags := 1041 }

/-- the primitive long -/
def k19 : Class := { plain "long" none with kind := .primitive 'J', accessFlags := 0x411 }
/-- [J -/
def k20 : Class := { plain "[J" (some 0) with kind := .array 19 .long, interfaces := #[13, 5], accessFlags := 1041 }

def heap : Heap := #[]
def classes : Array Class := #[k0, k1, k2, k3, k4, k5, k6, k7, k8, k9, k10, k11, k12, k13, k14, k15, k16, k17, k18, k19, k20]
def interned : List (Array UInt16 × Addr) := []
def slotsUsed : Nat := 0
def theMethod : MethodId := ⟨1, 1⟩
def args0 : Array Value := #[.int 5, .int 5, .int 5, .int 5, .int 5]
def aboutOver (below : List Frame) : State where
  vm := { classes := classes, interned := interned.toArray }
  heap := heap
  slotsUsed := slotsUsed
  threads := #[{ frames := .invoking theMethod args0 :: below }]
def below0 : List Frame := [.native { method := ⟨0, 0⟩, args := #[] }]
def about1 : State := aboutOver below0
def p0 : Program := .bare "" "" ""
def e0 : Env := launch0.env 0 0 0
theorem w_frames : about1.frames = Frame.invoking theMethod args0 :: below0 := rfl
set_option maxRecDepth 65536 in
theorem w_args : argsFit about1.vm theMethod args0 = true := by decide +kernel
set_option maxRecDepth 65536 in
theorem w_heap : heapFits about1 = true := by decide +kernel
set_option maxRecDepth 65536 in
theorem w_runnable : about1.curStatus? = some .runnable := by decide +kernel
set_option maxRecDepth 65536 in
theorem w_alone : about1.alone = true := by decide +kernel
set_option maxRecDepth 65536 in
theorem w_named : about1.methodNamed? x = some theMethod := by decide +kernel
set_option maxRecDepth 65536 in
theorem w_hears : about1.hears theMethod below0 = true := by decide +kernel
set_option maxRecDepth 65536 in
theorem w_ripe : about1.ripe theMethod args0 below0 = true := by decide +kernel
theorem w_running : about1.status = .running := rfl
set_option maxRecDepth 65536 in
theorem w_room : about1.hasRoom e0.platform room_1 = true :=
  launch0.hasRoom_least _ room_1 (by decide +kernel) (by decide +kernel) (by decide +kernel) (by decide +kernel) (by decide +kernel) (by decide +kernel)
theorem allAtoms_all (ts : List Jvm.Cond) (a : Array Jvm.Value) (st : Jvm.State) : (allAtoms ts).before a st = ts.all (fun c => c.before a st) := by
  induction ts with
  | nil => rfl
  | cons c t ih =>
    show (Jvm.Cond.and c (allAtoms t)).before a st = _
    rw [Jvm.Cond.before_and, ih, List.all_cons]
def words1 : List Jvm.Cond := Jvm.Cond.code x code maxLocals ret :: tables_1
/-- a 'code' word, met by the world's own term for the bytes: nothing is compared byte by byte -/
theorem code_word {y : MethodName} {bytes : ByteArray} {mx : Nat} {rt : Option FieldType} {a : Array Value} {s : State} {m : MethodId} {meth : Method} {c : Code} (h1 : s.methodNamed? y = some m) (h2 : s.vm.method? m = some meth) (h3 : meth.code = some c) (h4 : c.code = bytes)
    (h5 : (c.maxLocals == mx && c.exceptionTable.isEmpty && decide (c.maxStack ≤ mostOperands) && decide (meth.sig.returnType = rt) && !meth.locks && decide (parseMethodDescriptor y.desc = some meth.sig)) = true) : (Jvm.Cond.code y bytes mx rt).before a s = true := by
  simp only [Bool.and_eq_true, beq_iff_eq, Bool.not_eq_true', decide_eq_true_eq] at h5
  obtain ⟨⟨⟨⟨⟨g1, g2⟩, g3⟩, g4⟩, g5⟩, g6⟩ := h5
  simp [Cond.before, Cond.holds, Cond.value, h1, h2, h3, h4, g1, g2, g3, g4, g5, g6]
def isCode : Jvm.Cond → Bool
  | .code _ _ _ _ => true
  | _ => false
theorem all_split {L : List Jvm.Cond} {P : Jvm.Cond → Bool} (h1 : L.all (fun c => isCode c || P c) = true) (h2 : ∀ c ∈ L.filter isCode, P c = true) : L.all P = true := by
  refine List.all_eq_true.mpr fun c hc => ?_
  have h := List.all_eq_true.mp h1 c hc
  rcases Bool.eq_false_or_eq_true (isCode c) with hi | hi
  · exact h2 c (List.mem_filter.mpr ⟨hc, hi⟩)
  · simpa [hi] using h
set_option maxRecDepth 65536 in
theorem w_c0 : (Jvm.Cond.code x code maxLocals ret).before args0 about1 = true := code_word (m := ⟨1, 1⟩) (meth := k1m1) (c := k1c1) (by decide +kernel) rfl rfl rfl (by decide +kernel)
set_option maxRecDepth 65536 in
theorem w_c1 : (Jvm.Cond.code ({ cls := "com/example/shardloom/shardloom/VertexSet", name := "<init>", desc := "(I)V" } : Jvm.MethodName) prog_91_method_1_code (2 : Nat) (Option.none : Option Jvm.ClassFile.FieldType)).before args0 about1 = true := code_word (m := ⟨2, 0⟩) (meth := k2m0) (c := k2c0) (by decide +kernel) rfl rfl rfl (by decide +kernel)
set_option maxRecDepth 65536 in
theorem w_c2 : (Jvm.Cond.code ({ cls := "java/lang/Object", name := "<init>", desc := "()V" } : Jvm.MethodName) object_method_1_code (1 : Nat) (Option.none : Option Jvm.ClassFile.FieldType)).before args0 about1 = true := code_word (m := ⟨0, 0⟩) (meth := k0m0) (c := k0c0) (by decide +kernel) rfl rfl rfl (by decide +kernel)
set_option maxRecDepth 65536 in
theorem w_c3 : (Jvm.Cond.code ({ cls := "com/example/shardloom/shardloom/VertexSet", name := "add", desc := "(I)V" } : Jvm.MethodName) prog_91_method_2_code (5 : Nat) (Option.none : Option Jvm.ClassFile.FieldType)).before args0 about1 = true := code_word (m := ⟨2, 1⟩) (meth := k2m1) (c := k2c1) (by decide +kernel) rfl rfl rfl (by decide +kernel)
set_option maxRecDepth 65536 in
theorem w_c4 : (Jvm.Cond.code ({ cls := "com/example/shardloom/shardloom/VertexSet", name := "takeAscending", desc := "()[I" } : Jvm.MethodName) prog_91_method_4_code (6 : Nat) (Option.some (Jvm.ClassFile.FieldType.array Jvm.ClassFile.FieldType.int))).before args0 about1 = true := code_word (m := ⟨2, 3⟩) (meth := k2m3) (c := k2c3) (by decide +kernel) rfl rfl rfl (by decide +kernel)
set_option maxRecDepth 65536 in
theorem w_c5 : (Jvm.Cond.code ({ cls := "java/util/Arrays", name := "sort", desc := "([III)V" } : Jvm.MethodName) jdk_65_method_3_code (3 : Nat) (Option.none : Option Jvm.ClassFile.FieldType)).before args0 about1 = true := code_word (m := ⟨3, 1⟩) (meth := k3m1) (c := k3c1) (by decide +kernel) rfl rfl rfl (by decide +kernel)
set_option maxRecDepth 65536 in
theorem w_c6 : (Jvm.Cond.code ({ cls := "java/util/Arrays", name := "rangeCheck", desc := "(III)V" } : Jvm.MethodName) jdk_65_method_30_code (3 : Nat) (Option.none : Option Jvm.ClassFile.FieldType)).before args0 about1 = true := code_word (m := ⟨3, 2⟩) (meth := k3m2) (c := k3c2) (by decide +kernel) rfl rfl rfl (by decide +kernel)
set_option maxRecDepth 65536 in
theorem w_c7 : (Jvm.Cond.code ({ cls := "java/util/DualPivotQuicksort", name := "sort", desc := "([IIII)V" } : Jvm.MethodName) jdk_2529_method_3_code (7 : Nat) (Option.none : Option Jvm.ClassFile.FieldType)).before args0 about1 = true := code_word (m := ⟨4, 1⟩) (meth := k4m1) (c := k4c1) (by decide +kernel) rfl rfl rfl (by decide +kernel)
set_option maxRecDepth 65536 in
theorem w_c8 : (Jvm.Cond.code ({ cls := "java/util/DualPivotQuicksort", name := "sort", desc := "(Ljava/util/DualPivotQuicksort$Sorter;[IIII)V" } : Jvm.MethodName) jdk_2529_method_4_code (21 : Nat) (Option.none : Option Jvm.ClassFile.FieldType)).before args0 about1 = true := code_word (m := ⟨4, 2⟩) (meth := k4m2) (c := k4c2) (by decide +kernel) rfl rfl rfl (by decide +kernel)
set_option maxRecDepth 65536 in
theorem w_c9 : (Jvm.Cond.code ({ cls := "java/util/DualPivotQuicksort", name := "insertionSort", desc := "([III)V" } : Jvm.MethodName) jdk_2529_method_6_code (6 : Nat) (Option.none : Option Jvm.ClassFile.FieldType)).before args0 about1 = true := code_word (m := ⟨4, 3⟩) (meth := k4m3) (c := k4c3) (by decide +kernel) rfl rfl rfl (by decide +kernel)
set_option maxRecDepth 65536 in
theorem w_c10 : (Jvm.Cond.code ({ cls := "java/lang/Long", name := "numberOfTrailingZeros", desc := "(J)I" } : Jvm.MethodName) jdk_35_method_49_code (3 : Nat) (Option.some Jvm.ClassFile.FieldType.int)).before args0 about1 = true := code_word (m := ⟨10, 0⟩) (meth := k10m0) (c := k10c0) (by decide +kernel) rfl rfl rfl (by decide +kernel)
set_option maxRecDepth 65536 in
theorem w_c11 : (Jvm.Cond.code ({ cls := "java/lang/Integer", name := "numberOfTrailingZeros", desc := "(I)I" } : Jvm.MethodName) jdk_33_method_48_code (2 : Nat) (Option.some Jvm.ClassFile.FieldType.int)).before args0 about1 = true := code_word (m := ⟨11, 0⟩) (meth := k11m0) (c := k11c0) (by decide +kernel) rfl rfl rfl (by decide +kernel)
set_option maxRecDepth 65536 in
theorem w_c12 : (Jvm.Cond.code ({ cls := "com/example/shardloom/shardloom/VertexSet", name := "clear", desc := "()V" } : Jvm.MethodName) prog_91_method_5_code (2 : Nat) (Option.none : Option Jvm.ClassFile.FieldType)).before args0 about1 = true := code_word (m := ⟨2, 4⟩) (meth := k2m4) (c := k2c4) (by decide +kernel) rfl rfl rfl (by decide +kernel)
set_option maxRecDepth 65536 in
theorem w_c13 : (Jvm.Cond.code ({ cls := "java/lang/Math", name := "min", desc := "(II)I" } : Jvm.MethodName) jdk_29_method_69_code (2 : Nat) (Option.some Jvm.ClassFile.FieldType.int)).before args0 about1 = true := code_word (m := ⟨12, 2⟩) (meth := k12m2) (c := k12c2) (by decide +kernel) rfl rfl rfl (by decide +kernel)
set_option maxRecDepth 65536 in
theorem w_c14 : (Jvm.Cond.code ({ cls := "java/lang/Math", name := "max", desc := "(II)I" } : Jvm.MethodName) jdk_29_method_65_code (2 : Nat) (Option.some Jvm.ClassFile.FieldType.int)).before args0 about1 = true := code_word (m := ⟨12, 1⟩) (meth := k12m1) (c := k12c1) (by decide +kernel) rfl rfl rfl (by decide +kernel)
set_option maxRecDepth 65536 in
theorem w_c15 : (Jvm.Cond.code ({ cls := "com/example/shardloom/shardloom/VertexSetAddPinLaw", name := "same", desc := "([I[II)Z" } : Jvm.MethodName) method_3_code (3 : Nat) (Option.some Jvm.ClassFile.FieldType.boolean)).before args0 about1 = true := code_word (m := ⟨1, 2⟩) (meth := k1m2) (c := k1c2) (by decide +kernel) rfl rfl rfl (by decide +kernel)
set_option maxRecDepth 65536 in
theorem w_c16 : (Jvm.Cond.code ({ cls := "com/example/shardloom/shardloom/VertexSet", name := "takeAll", desc := "()[I" } : Jvm.MethodName) prog_91_method_3_code (2 : Nat) (Option.some (Jvm.ClassFile.FieldType.array Jvm.ClassFile.FieldType.int))).before args0 about1 = true := code_word (m := ⟨2, 2⟩) (meth := k2m2) (c := k2c2) (by decide +kernel) rfl rfl rfl (by decide +kernel)
set_option maxRecDepth 65536 in
theorem w_c17 : (Jvm.Cond.code ({ cls := "java/util/Arrays", name := "copyOf", desc := "([II)[I" } : Jvm.MethodName) jdk_65_method_123_code (3 : Nat) (Option.some (Jvm.ClassFile.FieldType.array Jvm.ClassFile.FieldType.int))).before args0 about1 = true := code_word (m := ⟨3, 3⟩) (meth := k3m3) (c := k3c3) (by decide +kernel) rfl rfl rfl (by decide +kernel)
def codes1 : List Jvm.Cond := [Jvm.Cond.code x code maxLocals ret, Jvm.Cond.code ({ cls := "com/example/shardloom/shardloom/VertexSet", name := "<init>", desc := "(I)V" } : Jvm.MethodName) prog_91_method_1_code (2 : Nat) (Option.none : Option Jvm.ClassFile.FieldType), Jvm.Cond.code ({ cls := "java/lang/Object", name := "<init>", desc := "()V" } : Jvm.MethodName) object_method_1_code (1 : Nat) (Option.none : Option Jvm.ClassFile.FieldType), Jvm.Cond.code ({ cls := "com/example/shardloom/shardloom/VertexSet", name := "add", desc := "(I)V" } : Jvm.MethodName) prog_91_method_2_code (5 : Nat) (Option.none : Option Jvm.ClassFile.FieldType), Jvm.Cond.code ({ cls := "com/example/shardloom/shardloom/VertexSet", name := "takeAscending", desc := "()[I" } : Jvm.MethodName) prog_91_method_4_code (6 : Nat) (Option.some (Jvm.ClassFile.FieldType.array Jvm.ClassFile.FieldType.int)), Jvm.Cond.code ({ cls := "java/util/Arrays", name := "sort", desc := "([III)V" } : Jvm.MethodName) jdk_65_method_3_code (3 : Nat) (Option.none : Option Jvm.ClassFile.FieldType), Jvm.Cond.code ({ cls := "java/util/Arrays", name := "rangeCheck", desc := "(III)V" } : Jvm.MethodName) jdk_65_method_30_code (3 : Nat) (Option.none : Option Jvm.ClassFile.FieldType), Jvm.Cond.code ({ cls := "java/util/DualPivotQuicksort", name := "sort", desc := "([IIII)V" } : Jvm.MethodName) jdk_2529_method_3_code (7 : Nat) (Option.none : Option Jvm.ClassFile.FieldType), Jvm.Cond.code ({ cls := "java/util/DualPivotQuicksort", name := "sort", desc := "(Ljava/util/DualPivotQuicksort$Sorter;[IIII)V" } : Jvm.MethodName) jdk_2529_method_4_code (21 : Nat) (Option.none : Option Jvm.ClassFile.FieldType), Jvm.Cond.code ({ cls := "java/util/DualPivotQuicksort", name := "insertionSort", desc := "([III)V" } : Jvm.MethodName) jdk_2529_method_6_code (6 : Nat) (Option.none : Option Jvm.ClassFile.FieldType), Jvm.Cond.code ({ cls := "java/lang/Long", name := "numberOfTrailingZeros", desc := "(J)I" } : Jvm.MethodName) jdk_35_method_49_code (3 : Nat) (Option.some Jvm.ClassFile.FieldType.int), Jvm.Cond.code ({ cls := "java/lang/Integer", name := "numberOfTrailingZeros", desc := "(I)I" } : Jvm.MethodName) jdk_33_method_48_code (2 : Nat) (Option.some Jvm.ClassFile.FieldType.int), Jvm.Cond.code ({ cls := "com/example/shardloom/shardloom/VertexSet", name := "clear", desc := "()V" } : Jvm.MethodName) prog_91_method_5_code (2 : Nat) (Option.none : Option Jvm.ClassFile.FieldType), Jvm.Cond.code ({ cls := "java/lang/Math", name := "min", desc := "(II)I" } : Jvm.MethodName) jdk_29_method_69_code (2 : Nat) (Option.some Jvm.ClassFile.FieldType.int), Jvm.Cond.code ({ cls := "java/lang/Math", name := "max", desc := "(II)I" } : Jvm.MethodName) jdk_29_method_65_code (2 : Nat) (Option.some Jvm.ClassFile.FieldType.int), Jvm.Cond.code ({ cls := "com/example/shardloom/shardloom/VertexSetAddPinLaw", name := "same", desc := "([I[II)Z" } : Jvm.MethodName) method_3_code (3 : Nat) (Option.some Jvm.ClassFile.FieldType.boolean), Jvm.Cond.code ({ cls := "com/example/shardloom/shardloom/VertexSet", name := "takeAll", desc := "()[I" } : Jvm.MethodName) prog_91_method_3_code (2 : Nat) (Option.some (Jvm.ClassFile.FieldType.array Jvm.ClassFile.FieldType.int)), Jvm.Cond.code ({ cls := "java/util/Arrays", name := "copyOf", desc := "([II)[I" } : Jvm.MethodName) jdk_65_method_123_code (3 : Nat) (Option.some (Jvm.ClassFile.FieldType.array Jvm.ClassFile.FieldType.int))]
set_option maxRecDepth 65536 in
theorem codes_eq : words1.filter isCode = codes1 := rfl
theorem w_codes : ∀ c ∈ words1.filter isCode, c.before args0 about1 = true := by
  rw [codes_eq]
  intro c hc
  simp only [codes1, List.mem_cons, List.not_mem_nil, or_false] at hc
  rcases hc with rfl | rfl | rfl | rfl | rfl | rfl | rfl | rfl | rfl | rfl | rfl | rfl | rfl | rfl | rfl | rfl | rfl | rfl
  · exact w_c0
  · exact w_c1
  · exact w_c2
  · exact w_c3
  · exact w_c4
  · exact w_c5
  · exact w_c6
  · exact w_c7
  · exact w_c8
  · exact w_c9
  · exact w_c10
  · exact w_c11
  · exact w_c12
  · exact w_c13
  · exact w_c14
  · exact w_c15
  · exact w_c16
  · exact w_c17
set_option maxRecDepth 65536 in
theorem w_t1 : (words1.take 24).all (fun c => isCode c || c.before args0 about1) = true := by decide +kernel
set_option maxRecDepth 65536 in
theorem w_t2 : ((words1.drop 24).take 24).all (fun c => isCode c || c.before args0 about1) = true := by decide +kernel
set_option maxRecDepth 65536 in
theorem w_t3 : (((words1.drop 24).drop 24).take 24).all (fun c => isCode c || c.before args0 about1) = true := by decide +kernel
set_option maxRecDepth 65536 in
theorem w_t4 : (((words1.drop 24).drop 24).drop 24).all (fun c => isCode c || c.before args0 about1) = true := by decide +kernel
theorem w_tables : (allAtoms (Jvm.Cond.code x code maxLocals ret :: tables_1)).before args0 about1 = true := by
  rw [allAtoms_all]
  show words1.all (fun c => c.before args0 about1) = true
  refine all_split ?_ w_codes
  rw [← List.take_append_drop 24 words1, List.all_append, w_t1, ← List.take_append_drop 24 (words1.drop 24), List.all_append, w_t2, ← List.take_append_drop 24 ((words1.drop 24).drop 24), List.all_append, w_t3, w_t4]
  rfl
set_option maxRecDepth 65536 in
theorem w_case : (Jvm.Cond.and given_1 narrow_1).before args0 about1 = true := by decide +kernel
theorem w_applies : (headSpec (Jvm.Cond.code x code maxLocals ret :: tables_1) room_1).applies x e0.platform about1 = true :=
  (Spec.applies_iff w_frames).mpr ⟨w_running, w_runnable, w_alone, w_named, w_hears, w_ripe, w_room, w_tables⟩
theorem atStart : AtStart classFile x code maxLocals ret World_1 tables_1 room_1 Calls_1 rest_1 Pre_1 launch0 p0 e0 about1 theMethod args0 below0 :=
  ⟨lists_1, trivial, launch0.admits_env _ _ _, launch0.least_env, fairChoices_fair.cas, fairChoices_fair.clock, w_frames, w_args, w_heap, w_applies, trivial, trivial, w_case⟩
end start1
theorem witness_1 : WitnessClaimed_1 := ⟨start1.p0, start1.e0, start1.about1, start1.theMethod, start1.args0, start1.below0, start1.atStart⟩
end Jvm.Pilot.@@N@@
