import JvmDerived
import JvmDerived.Pilot.@@N@@Statement
import JvmDerived.Pilot.@@N@@Code
set_option linter.unusedVariables false
set_option linter.unusedSimpArgs false
namespace Jvm.RoadKit
open Sem ClassFile Op Lib Jvm.Stand Jvm.Free Jvm.LawKit
section OwnKit
variable {p : Program} {l : Launch} {e : Env} {R : Room} {s : State} {m : MethodId} {args : Array Value} {below : List Frame} {meth : Method} {c : Code} {T : State} {locs : List Loc} {cells slots : Nat} {Z : State} {a0 : Array Value} {h h' : Heap} {a b : Addr}
variable {C N : Nat} {Q : Option Value → Heap → List Loc → Prop} {pc : Nat} {Ls : Array Slot} {rest : List Value}
/-- from the state A the invocation returns, with what Q says of the value, the heap and the places written -/
def own_Fin (p : Program) (e : Env) (below : List Frame) (s : State) (C N : Nat) (Q : Option Value → Heap → List Loc → Prop) (A : State) : Prop :=
  ∃ s₂ o, Steps p.tables e below A s₂ ∧ s₂.status = .running ∧ Ended s₂ below o ∧ ∃ v L, o = .returned v ∧ Q v s₂.heap L ∧ FrameEnd s o s₂ L C N
theorem own_of {A B : State} (st : ∀ t, Steps p.tables e below B t → Steps p.tables e below A t) (k : own_Fin p e below s C N Q B) : own_Fin p e below s C N Q A := by
  obtain ⟨s₂, o, h1, h2⟩ := k
  exact ⟨s₂, o, st _ h1, h2⟩
theorem own_mono {Q' : Option Value → Heap → List Loc → Prop} {A : State} (hq : ∀ v h L, Q v h L → Q' v h L) (k : own_Fin p e below s C N Q A) : own_Fin p e below s C N Q' A := by
  obtain ⟨s₂, o, h1, h2, h3, v, L, h4, h5, h6⟩ := k
  exact ⟨s₂, o, h1, h2, h3, v, L, h4, hq _ _ _ h5, h6⟩
/-- a body's contract: called with as' over the heap h0 it returns, and Q holds -/
def own_Met (l : Launch) (Z : State) (y : MethodName) (bytes : ByteArray) (maxL : Nat) (ret : Option FieldType) (rm : Room) (as' : Array Value) (h0 : Heap) (Q : Option Value → Heap → List Loc → Prop) : Prop :=
  ∀ ws : List Cond, MetFree l y (head1 (Cond.code y bytes maxL ret :: ws) rm) (fun a U => a = as' ∧ Z.Warmed39 U.vm ∧ U.heap = h0) (fun _ _ _ _ _ => True) (fun _ U o U' => ∃ v L, o = .returned v ∧ Q v U'.heap L ∧ FrameEnd U o U' L rm.cells rm.slots)
theorem own_met {y : MethodName} {bytes : ByteArray} {maxL : Nat} {ret : Option FieldType} {rm : Room} {as' : Array Value} {h0 : Heap} (hpl : plainFor y = true)
    (body : ∀ (p : Program) (e : Env) (s : State) (m : MethodId) (below : List Frame) (meth : Method) (c : Code) (T : State), Stand p l e rm s m as' below meth c T [] 0 0 → p.tables.exec = Jvm.exec → c.code = bytes → c.maxLocals = maxL → s.vm.findClass y.cls = some m.cls → Z.Warmed39 s.vm → T.heap = h0 → meth.sig.returnType = ret → meth.locks = false → meth.name = y.name →
      own_Fin p e below s rm.cells rm.slots Q (T.setTop (entryFrame m as' maxL))) : own_Met l Z y bytes maxL ret rm as' h0 Q := by
  intro ws
  refine MetFree.of_bodySF hpl hisR ?_
  intro p e s m args below meth c s₁ Bd hml0 hP hK
  obtain ⟨rfl, hZ, hh⟩ := hP
  have X0 : Stand p l e rm s m _ below meth c s₁ [] 0 0 := Stand.of_body Bd
  exact body p e s m below meth c s₁ X0 Bd.exec Bd.bytes hml0 (findClass_of_methodNamed Bd.named) hZ (by rw [← hh, Bd.state]; rfl) Bd.returns Bd.notSynchronized (name_of_methodNamed Bd.named Bd.method).1
/-! returns -/
theorem own_retI (X : Stand p l e R s m args below meth c T locs cells slots) (hx : p.tables.exec = Jvm.exec) (hlk : meth.locks = false) (eT : T.heap = h) {z : Int32} (hret : meth.sig.returnType = some .int) (hd : decode c.code pc = .ok (.ireturn, 1)) (hC : cells ≤ C) (hN : slots ≤ N) (hQ : Q (some (.int z)) h locs) :
    own_Fin p e below s C N Q (T.setTop (mkF m pc Ls (.int z :: rest))) := by
  obtain ⟨fs, hr, hrun, hended, hW, hsame⟩ := X.leave (v := some (.int z)) (fun h => by rw [hret] at h; cases h) hlk
  exact ⟨_, _, retOut X hx hret rfl (Or.inl ⟨rfl, Or.inl rfl, _, rfl⟩) hd hr, hrun, hended, _, _, rfl, (by show Q _ T.heap _; rw [eT]; exact hQ), ⟨_, rfl⟩, hW, hsame.mono hC hN⟩
theorem own_retN (X : Stand p l e R s m args below meth c T locs cells slots) (hx : p.tables.exec = Jvm.exec) (hlk : meth.locks = false) (eT : T.heap = h) {z z' : Int32} {t : FieldType} (hret : meth.sig.returnType = some t) (ht : t = .boolean ∨ t = .byte ∨ t = .char ∨ t = .short) (hd : decode c.code pc = .ok (.ireturn, 1)) (hC : cells ≤ C) (hN : slots ≤ N) (hz : nar t z = z') (hQ : Q (some (.int z')) h locs) :
    own_Fin p e below s C N Q (T.setTop (mkF m pc Ls (.int z :: rest))) := by
  subst hz
  obtain ⟨fs, hr, hrun, hended, hW, hsame⟩ := X.leave (v := some (.int (nar t z))) (fun h => by rw [hret] at h; cases h) hlk
  exact ⟨_, _, retN X hx hret ht hd hr, hrun, hended, _, _, rfl, (by show Q _ T.heap _; rw [eT]; exact hQ), ⟨_, rfl⟩, hW, hsame.mono hC hN⟩
theorem own_retJ (X : Stand p l e R s m args below meth c T locs cells slots) (hx : p.tables.exec = Jvm.exec) (hlk : meth.locks = false) (eT : T.heap = h) {z : Int64} (hret : meth.sig.returnType = some .long) (hd : decode c.code pc = .ok (.lreturn, 1)) (hC : cells ≤ C) (hN : slots ≤ N) (hQ : Q (some (.long z)) h locs) :
    own_Fin p e below s C N Q (T.setTop (mkF m pc Ls (.long z :: rest))) := by
  obtain ⟨fs, hr, hrun, hended, hW, hsame⟩ := X.leave (v := some (.long z)) (fun h => by rw [hret] at h; cases h) hlk
  exact ⟨_, _, retOut X hx hret rfl (Or.inr (Or.inl ⟨rfl, rfl, _, rfl⟩)) hd hr, hrun, hended, _, _, rfl, (by show Q _ T.heap _; rw [eT]; exact hQ), ⟨_, rfl⟩, hW, hsame.mono hC hN⟩
theorem own_retA (X : Stand p l e R s m args below meth c T locs cells slots) (hx : p.tables.exec = Jvm.exec) (hlk : meth.locks = false) (eT : T.heap = h) {t : FieldType} (ht : t.isReference = true) (hret : meth.sig.returnType = some t) (hn : narrow t (.ref a) = .ref a) (hd : decode c.code pc = .ok (.areturn, 1)) (hC : cells ≤ C) (hN : slots ≤ N) (hQ : Q (some (.ref a)) h locs) :
    own_Fin p e below s C N Q (T.setTop (mkF m pc Ls (.ref a :: rest))) := by
  obtain ⟨fs, hr, hrun, hended, hW, hsame⟩ := X.leave (v := some (.ref a)) (fun h => by rw [hret] at h; cases h) hlk
  exact ⟨_, _, retOut X hx hret hn (Or.inr (Or.inr (Or.inr (Or.inr ⟨rfl, ht, rfl⟩)))) hd hr, hrun, hended, _, _, rfl, (by show Q _ T.heap _; rw [eT]; exact hQ), ⟨_, rfl⟩, hW, hsame.mono hC hN⟩
theorem own_retV (X : Stand p l e R s m args below meth c T locs cells slots) (hx : p.tables.exec = Jvm.exec) (hlk : meth.locks = false) (eT : T.heap = h) (hret : meth.sig.returnType = none) (hd : decode c.code pc = .ok (.return_, 1)) (hC : cells ≤ C) (hN : slots ≤ N) (hQ : Q none h locs) :
    own_Fin p e below s C N Q (T.setTop (mkF m pc Ls [])) := by
  obtain ⟨fs, hr, hrun, hended, hW, hsame⟩ := X.leave (v := none) (fun _ => rfl) hlk
  exact ⟨_, _, X.returnOut hx hret hd hr, hrun, hended, _, _, rfl, (by show Q _ T.heap _; rw [eT]; exact hQ), ⟨_, rfl⟩, hW, hsame.mono hC hN⟩
/-! calls -/
theorem own_callS (X : Stand p l e R s m args below meth c T locs cells slots) (hx : p.tables.exec = Jvm.exec) (hZ : Z.Warmed39 s.vm) {own : String} {index : Nat} {y : MethodName} {bytes : ByteArray} {maxL : Nat} {ret : Option FieldType} {rm : Room} {W : Nat} {argsL : List Value} {Qc : Option Value → Heap → List Loc → Prop}
    (hown : s.vm.findClass own = some m.cls) (wl : (Cond.methodLink own index y).before a0 Z = true) (wst : (Cond.static y).before a0 Z = true) (wi : (Cond.initialized y.cls).before a0 Z = true) (wc : (Cond.code y bytes maxL ret).before a0 Z = true) (hy : y.cls ≠ "java/lang/invoke/MethodHandle" ∧ y.cls ≠ "java/lang/invoke/VarHandle")
    (eT : T.heap = h) (hM : own_Met l Z y bytes maxL ret rm argsL.toArray h Qc) (hfr : rm.frames + 1 ≤ R.frames) (hlo : W + (maxL + 11) + rm.locals ≤ R.locals) (hce : cells + rm.cells ≤ R.cells) (hsl : slots + rm.slots ≤ R.slots)
    (hsize : Ls.size = c.maxLocals) {ps : List FieldType} {r : Option FieldType} (hpd : parseMethodDescriptor y.desc = some ⟨ps, r⟩) (hlen : argsL.length = ps.length) {St : List Value} (hs : St = argsL.reverse ++ rest) (hW : (rest.map fun v => v.category).sum ≤ W) (hd : decode c.code pc = .ok (.invokestatic index, 3))
    (k : ∀ v T' h' L, Stand p l e R s m args below meth c T' (locs ++ L) (cells + rm.cells) (slots + rm.slots) → T'.heap = h' → Qc v h' L → own_Fin p e below s C N Q (T'.setTop (mkF m (pc + 3) Ls (v.toList ++ rest)))) :
    own_Fin p e below s C N Q (T.setTop (mkF m pc Ls St)) := by
  subst hs
  obtain ⟨v, _, ⟨T', L', k', n'⟩, -, X', ⟨Lc, hQ, l1, y1, z1⟩, st⟩ := Jvm.LawKit.callS X hx (y := y) hown (mvT hZ wl) (mvT hZ wst) (mvT hZ wi) (mvT hZ wc) hy (backOf (W := W) (hM []) hZ wc wi hfr hlo) (g := mkF m pc Ls (argsL.reverse ++ rest)) rfl hsize (argsL := argsL) (rest := rest) (lenOf hpd hlen) rfl (by show 2 * 0 + _ ≤ _; simpa using hW) hd (fun _ _ => ⟨rfl, eT, hce, hsl⟩)
  dsimp only [Pt.U, Pt.locs, Pt.cells, Pt.slots] at X' l1 y1 z1 st hQ
  subst l1 y1 z1
  exact own_of st (k _ _ _ _ X' rfl hQ)
def own_Pure (r : Value) (h : Heap) : Option Value → Heap → List Loc → Prop := fun v h' L => v = some r ∧ h' = h ∧ L = []
theorem own_callP (X : Stand p l e R s m args below meth c T locs cells slots) (hx : p.tables.exec = Jvm.exec) (hZ : Z.Warmed39 s.vm) {own : String} {index : Nat} {y : MethodName} {bytes : ByteArray} {maxL : Nat} {ret : Option FieldType} {fr lo : Nat} {W : Nat} {argsL : List Value} {rv : Value}
    (hown : s.vm.findClass own = some m.cls) (wl : (Cond.methodLink own index y).before a0 Z = true) (wst : (Cond.static y).before a0 Z = true) (wi : (Cond.initialized y.cls).before a0 Z = true) (wc : (Cond.code y bytes maxL ret).before a0 Z = true) (hy : y.cls ≠ "java/lang/invoke/MethodHandle" ∧ y.cls ≠ "java/lang/invoke/VarHandle")
    (eT : T.heap = h) (hM : own_Met l Z y bytes maxL ret { frames := fr, cells := 0, slots := 0, locals := lo } argsL.toArray h (own_Pure rv h)) (hfr : fr + 1 ≤ R.frames) (hlo : W + (maxL + 11) + lo ≤ R.locals) (hce : cells ≤ R.cells) (hsl : slots ≤ R.slots)
    (hsize : Ls.size = c.maxLocals) {ps : List FieldType} {r : Option FieldType} (hpd : parseMethodDescriptor y.desc = some ⟨ps, r⟩) (hlen : argsL.length = ps.length) {St : List Value} (hs : St = argsL.reverse ++ rest) (hW : (rest.map fun v => v.category).sum ≤ W) (hd : decode c.code pc = .ok (.invokestatic index, 3))
    (k : ∀ T', Stand p l e R s m args below meth c T' locs cells slots → T'.heap = h → own_Fin p e below s C N Q (T'.setTop (mkF m (pc + 3) Ls (rv :: rest)))) :
    own_Fin p e below s C N Q (T.setTop (mkF m pc Ls St)) := by
  refine own_callS X hx hZ hown wl wst wi wc hy eT hM hfr hlo hce hsl hsize hpd hlen hs hW hd ?_
  rintro v T' h' L X' e' ⟨rfl, rfl, rfl⟩
  rw [List.append_nil] at X'
  exact k T' X' e'
theorem own_callV (X : Stand p l e R s m args below meth c T locs cells slots) (hx : p.tables.exec = Jvm.exec) (hZ : Z.Warmed39 s.vm) {own K : String} {index : Nat} {y z : MethodName} {bytes : ByteArray} {maxL : Nat} {ret : Option FieldType} {rm : Room} {W : Nat} {argsL : List Value} {Qc : Option Value → Heap → List Loc → Prop}
    (hown : s.vm.findClass own = some m.cls) (wl : (Cond.methodLink own index y).before a0 Z = true) (wd : (Cond.declares y).before a0 Z = true) (hnf : NotFace s y) (wse : (Cond.selects K y z).before a0 Z = true) (win : (Cond.instanceMethod z).before a0 Z = true) (wi : (Cond.initialized z.cls).before a0 Z = true) (wc : (Cond.code z bytes maxL ret).before a0 Z = true) (hy : y.cls ≠ "java/lang/invoke/MethodHandle" ∧ y.cls ≠ "java/lang/invoke/VarHandle")
    (eT : T.heap = h) (E : Exa Z h b K) (hM : own_Met l Z z bytes maxL ret rm (.ref b :: argsL).toArray h Qc) (hfr : rm.frames + 1 ≤ R.frames) (hlo : W + (maxL + 11) + rm.locals ≤ R.locals) (hce : cells + rm.cells ≤ R.cells) (hsl : slots + rm.slots ≤ R.slots)
    (hsize : Ls.size = c.maxLocals) {ps : List FieldType} {r : Option FieldType} (hpd : parseMethodDescriptor y.desc = some ⟨ps, r⟩) (hlen : argsL.length = ps.length) {St : List Value} (hs : St = argsL.reverse ++ .ref b :: rest) (hW : (rest.map fun v => v.category).sum ≤ W) (hd : decode c.code pc = .ok (.invokevirtual index, 3))
    (k : ∀ v T' h' L, Stand p l e R s m args below meth c T' (locs ++ L) (cells + rm.cells) (slots + rm.slots) → T'.heap = h' → Qc v h' L → own_Fin p e below s C N Q (T'.setTop (mkF m (pc + 3) Ls (v.toList ++ rest)))) :
    own_Fin p e below s C N Q (T.setTop (mkF m pc Ls St)) := by
  subst hs
  obtain ⟨cq, kq, qa, qb, qc⟩ := isOf hZ eT E
  obtain ⟨v, _, ⟨T', L', k', n'⟩, -, X', ⟨Lc, hQ, l1, y1, z1⟩, st⟩ := X.virtualBack hx (y := y) (z := z) hown (mvT hZ wl) (mvT hZ wd) hnf (mvT hZ wse) (mvT hZ win) hy (backOf (W := W) (hM []) hZ wc wi hfr hlo) qa qc (g := mkF m pc Ls (argsL.reverse ++ .ref b :: rest)) rfl hsize (Steps.refl _) (argsL := argsL) (rest := rest) (lenOf hpd hlen) rfl (by show 2 * 0 + _ ≤ _; simpa using hW) hd (fun _ _ => ⟨rfl, eT, hce, hsl⟩)
  dsimp only [Pt.U, Pt.locs, Pt.cells, Pt.slots] at X' l1 y1 z1 st hQ
  subst l1 y1 z1
  exact own_of (fun t k => st.trans k) (k _ _ _ _ X' rfl hQ)
theorem own_callC (X : Stand p l e R s m args below meth c T locs cells slots) (hx : p.tables.exec = Jvm.exec) (hZ : Z.Warmed39 s.vm) {own : String} {index : Nat} {y : MethodName} {bytes : ByteArray} {maxL : Nat} {rm : Room} {W : Nat} {argsL : List Value} {Qc : Option Value → Heap → List Loc → Prop} (hn : y.name = "<init>")
    (hown : s.vm.findClass own = some m.cls) (wl : (Cond.methodLink own index y).before a0 Z = true) (win : (Cond.instanceMethod y).before a0 Z = true) (wi : (Cond.initialized y.cls).before a0 Z = true) (wc : (Cond.code y bytes maxL none).before a0 Z = true) (hy : y.cls ≠ "java/lang/invoke/MethodHandle" ∧ y.cls ≠ "java/lang/invoke/VarHandle")
    (eT : T.heap = h) (hM : own_Met l Z y bytes maxL none rm (.ref b :: argsL).toArray h Qc) (hfr : rm.frames + 1 ≤ R.frames) (hlo : W + (maxL + 11) + rm.locals ≤ R.locals) (hce : cells + rm.cells ≤ R.cells) (hsl : slots + rm.slots ≤ R.slots)
    (hsize : Ls.size = c.maxLocals) {ps : List FieldType} {r : Option FieldType} (hpd : parseMethodDescriptor y.desc = some ⟨ps, r⟩) (hlen : argsL.length = ps.length) {St : List Value} (hs : St = argsL.reverse ++ .ref b :: rest) (hW : (rest.map fun v => v.category).sum ≤ W) (hd : decode c.code pc = .ok (.invokespecial index, 3))
    (k : ∀ v T' h' L, Stand p l e R s m args below meth c T' (locs ++ L) (cells + rm.cells) (slots + rm.slots) → T'.heap = h' → Qc v h' L → own_Fin p e below s C N Q (T'.setTop (mkF m (pc + 3) Ls (v.toList ++ rest)))) :
    own_Fin p e below s C N Q (T.setTop (mkF m pc Ls St)) := by
  subst hs
  obtain ⟨v, _, ⟨T', L', k', n'⟩, -, X', ⟨Lc, hQ, l1, y1, z1⟩, st⟩ := X.specialBack hx (y := y) hn hown (mvT hZ wl) (mvT hZ win) (mvT hZ wc) hy (backOf (W := W) (hM []) hZ wc wi hfr hlo) (g := mkF m pc Ls (argsL.reverse ++ .ref b :: rest)) rfl hsize (Steps.refl _) (a := b) (argsL := argsL) (rest := rest) (lenOf hpd hlen) rfl (by show 2 * 0 + _ ≤ _; simpa using hW) hd (fun _ _ => ⟨rfl, eT, hce, hsl⟩)
  dsimp only [Pt.U, Pt.locs, Pt.cells, Pt.slots] at X' l1 y1 z1 st hQ
  subst l1 y1 z1
  exact own_of (fun t k => st.trans k) (k _ _ _ _ X' rfl hQ)
/-! arrays: n places, the j-th holds f j -/
def own_Arf (Z : State) (h : Heap) (a : Addr) (ty : FieldType) (n : Nat) (f : Nat → Value) : Prop := ∃ cl : Cell, Arr Z h a cl ty ∧ cl.slots.size = n ∧ ∀ j, j < n → cl.slots[j]? = some (f j)
section Ar
variable {ty : FieldType} {n : Nat} {f g : Nat → Value} {sl : Nat} {v : Value} {ws : List Addr}
theorem own_Arf.lt (F : own_Arf Z h a ty n f) : a < h.size := by obtain ⟨cl, A, -⟩ := F; exact A.lt
theorem own_Arf.ext (F : own_Arf Z h a ty n f) (E : Ext h h') : own_Arf Z h' a ty n f := by obtain ⟨cl, A, r⟩ := F; exact ⟨cl, A.ext E, r⟩
theorem own_Arf.other (F : own_Arf Z h b ty n f) (W : Wr h h' a sl v) (q : b ≠ a) : own_Arf Z h' b ty n f := by obtain ⟨cl, A, r⟩ := F; exact ⟨cl, A.other W q, r⟩
theorem own_Arf.keep (F : own_Arf Z h a ty n f) (K : Keep h h' ws) (q : a ∉ ws) : own_Arf Z h' a ty n f := by obtain ⟨cl, A, r⟩ := F; exact ⟨cl, ⟨K.2.1 a cl A.1 q, A.2⟩, r⟩
theorem own_Arf.congr (F : own_Arf Z h a ty n f) (q : ∀ j, j < n → f j = g j) : own_Arf Z h a ty n g := by obtain ⟨cl, A, r, s⟩ := F; exact ⟨cl, A, r, fun j hj => by rw [s j hj, q j hj]⟩
theorem own_Arf.set (F : own_Arf Z h a ty n f) (W : Wr h h' a sl v) : own_Arf Z h' a ty n (fun j => if j = sl then v else f j) := by
  obtain ⟨cl, A, r, q⟩ := F
  refine ⟨_, A.same W, by rw [sz_set]; exact r, fun j hj => ?_⟩
  by_cases u : j = sl
  · subst u; simp [Cell.setSlot, r, hj]
  · show (cl.slots.setIfInBounds sl v)[j]? = some (if j = sl then v else f j)
    rw [if_neg u, Array.getElem?_setIfInBounds_ne (Ne.symm u)]; exact q j hj
theorem own_Arf.new {k : ClassId} {z : Int32} (A : Arr Z h a (newA k ty z) ty) (hz : z.toInt = n) : own_Arf Z h a ty n (fun _ => defaultValue ty) := by
  have e : z.toNatClampNeg = n := by simp only [Int32.toNatClampNeg, hz]; rfl
  refine ⟨_, A, by rw [sz_new]; exact e, fun j hj => ?_⟩
  simp [newA, e, hj]
theorem own_in {j : Int32} {i k : Nat} (hj : j.toInt = i) (hi : i < k) : ¬ (j < 0 ∨ k ≤ j.toNatClampNeg) := by
  simp only [Int32.lt_iff_toInt_lt, Int32.toNatClampNeg, hj, Int32.reduceToInt]; omega
theorem own_nc {j : Int32} {i : Nat} (hj : j.toInt = i) : j.toNatClampNeg = i := by simp only [Int32.toNatClampNeg, hj]; rfl
theorem own_iaload (X : Stand p l e R s m args below meth c T locs cells slots) (hx : p.tables.exec = Jvm.exec) (hZ : Z.Warmed39 s.vm) (eT : T.heap = h) (F : own_Arf Z h a .int n f) {j : Int32} {i : Nat} (hj : j.toInt = i) (hi : i < n) (hv : f i = v) (hd : decode c.code pc = .ok (.iaload, 1))
    (k : own_Fin p e below s C N Q (T.setTop (mkF m (pc + 1) Ls (v :: rest)))) : own_Fin p e below s C N Q (T.setTop (mkF m pc Ls (.int j :: .ref a :: rest))) := by
  obtain ⟨cl, A, r, q⟩ := F
  exact own_of (fun t kk => X.iaload hx (j := j) (v := v) (by rw [eT]; exact A.1) (State.isArrayOf_alike hZ.alike A.2.1) A.2.2 (own_in hj (by rw [r]; exact hi)) (by rw [own_nc hj, q i hi, hv]) (g := mkF m pc Ls (.int j :: .ref a :: rest)) rfl rfl hd t kk) k
theorem own_laload (X : Stand p l e R s m args below meth c T locs cells slots) (hx : p.tables.exec = Jvm.exec) (hZ : Z.Warmed39 s.vm) (eT : T.heap = h) (F : own_Arf Z h a .long n f) {j : Int32} {i : Nat} (hj : j.toInt = i) (hi : i < n) (hv : f i = v) (hd : decode c.code pc = .ok (.laload, 1))
    (k : own_Fin p e below s C N Q (T.setTop (mkF m (pc + 1) Ls (v :: rest)))) : own_Fin p e below s C N Q (T.setTop (mkF m pc Ls (.int j :: .ref a :: rest))) := by
  obtain ⟨cl, A, r, q⟩ := F
  exact own_of (fun t kk => X.laload hx (j := j) (v := v) (by rw [eT]; exact A.1) (State.isArrayOf_alike hZ.alike A.2.1) A.2.2 (own_in hj (by rw [r]; exact hi)) (by rw [own_nc hj, q i hi, hv]) (g := mkF m pc Ls (.int j :: .ref a :: rest)) rfl rfl hd t kk) k
theorem own_caload (X : Stand p l e R s m args below meth c T locs cells slots) (hx : p.tables.exec = Jvm.exec) (hZ : Z.Warmed39 s.vm) (eT : T.heap = h) (F : own_Arf Z h a .char n f) {j : Int32} {i : Nat} (hj : j.toInt = i) (hi : i < n) (hv : f i = v) (hd : decode c.code pc = .ok (.caload, 1))
    (k : own_Fin p e below s C N Q (T.setTop (mkF m (pc + 1) Ls (v :: rest)))) : own_Fin p e below s C N Q (T.setTop (mkF m pc Ls (.int j :: .ref a :: rest))) := by
  obtain ⟨cl, A, r, q⟩ := F
  exact own_of (fun t kk => X.caload hx (j := j) (v := v) (by rw [eT]; exact A.1) (State.isArrayOf_alike hZ.alike A.2.1) A.2.2 (own_in hj (by rw [r]; exact hi)) (by rw [own_nc hj, q i hi, hv]) (g := mkF m pc Ls (.int j :: .ref a :: rest)) rfl rfl hd t kk) k
theorem own_baload (X : Stand p l e R s m args below meth c T locs cells slots) (hx : p.tables.exec = Jvm.exec) (hZ : Z.Warmed39 s.vm) (eT : T.heap = h) (F : own_Arf Z h a .byte n f) {j : Int32} {i : Nat} (hj : j.toInt = i) (hi : i < n) (hv : f i = v) (hd : decode c.code pc = .ok (.baload, 1))
    (k : own_Fin p e below s C N Q (T.setTop (mkF m (pc + 1) Ls (v :: rest)))) : own_Fin p e below s C N Q (T.setTop (mkF m pc Ls (.int j :: .ref a :: rest))) := by
  obtain ⟨cl, A, r, q⟩ := F
  exact own_of (fun t kk => X.baloadBytes hx (j := j) (v := v) (by rw [eT]; exact A.1) (State.isArrayOf_alike hZ.alike A.2.1) A.2.2 (own_in hj (by rw [r]; exact hi)) (by rw [own_nc hj, q i hi, hv]) (g := mkF m pc Ls (.int j :: .ref a :: rest)) rfl rfl hd t kk) k
theorem own_zaload (X : Stand p l e R s m args below meth c T locs cells slots) (hx : p.tables.exec = Jvm.exec) (hZ : Z.Warmed39 s.vm) (eT : T.heap = h) (F : own_Arf Z h a .boolean n f) {j : Int32} {i : Nat} (hj : j.toInt = i) (hi : i < n) (hv : f i = v) (hd : decode c.code pc = .ok (.baload, 1))
    (k : own_Fin p e below s C N Q (T.setTop (mkF m (pc + 1) Ls (v :: rest)))) : own_Fin p e below s C N Q (T.setTop (mkF m pc Ls (.int j :: .ref a :: rest))) := by
  obtain ⟨cl, A, r, q⟩ := F
  exact own_of (fun t kk => X.baloadBooleans hx (j := j) (v := v) (by rw [eT]; exact A.1) (State.isArrayOf_alike hZ.alike A.2.1) A.2.2 (own_in hj (by rw [r]; exact hi)) (by rw [own_nc hj, q i hi, hv]) (g := mkF m pc Ls (.int j :: .ref a :: rest)) rfl rfl hd t kk) k
theorem own_arraylength (X : Stand p l e R s m args below meth c T locs cells slots) (hx : p.tables.exec = Jvm.exec) (hZ : Z.Warmed39 s.vm) (eT : T.heap = h) (F : own_Arf Z h a ty n f) {z : Int32} (hz : z.toInt = n) (hd : decode c.code pc = .ok (.arraylength, 1))
    (k : own_Fin p e below s C N Q (T.setTop (mkF m (pc + 1) Ls (.int z :: rest)))) : own_Fin p e below s C N Q (T.setTop (mkF m pc Ls (.ref a :: rest))) := by
  obtain ⟨cl, A, r, q⟩ := F
  have e1 : cl.slots.size.toInt32 = z := by
    have hlt := Int32.toInt_lt z
    apply Int32.toInt_inj.mp
    rw [r, len_toInt (by omega), hz]
  refine own_of (fun t kk => X.arraylength hx (by rw [eT]; exact A.1) (State.isArrayOf_alike hZ.alike A.2.1) (g := mkF m pc Ls (.ref a :: rest)) rfl rfl hd t kk) ?_
  rw [e1]; exact k
variable {n0 : Nat}
theorem own_st {kd : Value} {i : Nat} {j : Int32} (hj : j.toInt = i) (F : own_Arf Z h a ty n f) (hN : Fr n0 locs) (ge : n0 ≤ a) {A : State} {fr : JFrame}
    (hst : ∃ T' h', Stand p l e R s m args below meth c T' (locs ++ [⟨a, j.toNatClampNeg⟩]) cells slots ∧ T'.heap = h' ∧ Wr h h' a j.toNatClampNeg kd ∧ ∀ target, Steps p.tables e below (T'.setTop fr) target → Steps p.tables e below A target)
    (k : ∀ T' h' locs', Stand p l e R s m args below meth c T' locs' cells slots → Fr n0 locs' → T'.heap = h' → Wr h h' a i kd → own_Arf Z h' a ty n (fun j => if j = i then kd else f j) → own_Fin p e below s C N Q (T'.setTop fr)) :
    own_Fin p e below s C N Q A := by
  obtain ⟨T', h', X', e', W, st⟩ := hst
  have hN' := Fr.snoc X' hN ge
  rw [own_nc hj] at W
  exact own_of st (k T' h' _ X' hN' e' W (F.set W))
theorem own_iastore (X : Stand p l e R s m args below meth c T locs cells slots) (hx : p.tables.exec = Jvm.exec) (hZ : Z.Warmed39 s.vm) (eT : T.heap = h) (F : own_Arf Z h a .int n f) (hN : Fr n0 locs) (ge : n0 ≤ a) {j x : Int32} {i : Nat} (hj : j.toInt = i) (hi : i < n) (hd : decode c.code pc = .ok (.iastore, 1))
    (k : ∀ T' h' locs', Stand p l e R s m args below meth c T' locs' cells slots → Fr n0 locs' → T'.heap = h' → Wr h h' a i (.int x) → own_Arf Z h' a .int n (fun j => if j = i then .int x else f j) → own_Fin p e below s C N Q (T'.setTop (mkF m (pc + 1) Ls rest))) :
    own_Fin p e below s C N Q (T.setTop (mkF m pc Ls (.int x :: .int j :: .ref a :: rest))) := by
  have F' := F
  obtain ⟨cl, A, r, q⟩ := F
  exact own_st hj F' hN ge (stI X hx hZ eT A (j := j) (own_in hj (by rw [r]; exact hi)) (g := mkF m pc Ls (.int x :: .int j :: .ref a :: rest)) rfl rfl hd) k
theorem own_lastore (X : Stand p l e R s m args below meth c T locs cells slots) (hx : p.tables.exec = Jvm.exec) (hZ : Z.Warmed39 s.vm) (eT : T.heap = h) (F : own_Arf Z h a .long n f) (hN : Fr n0 locs) (ge : n0 ≤ a) {j : Int32} {x : Int64} {i : Nat} (hj : j.toInt = i) (hi : i < n) (hd : decode c.code pc = .ok (.lastore, 1))
    (k : ∀ T' h' locs', Stand p l e R s m args below meth c T' locs' cells slots → Fr n0 locs' → T'.heap = h' → Wr h h' a i (.long x) → own_Arf Z h' a .long n (fun j => if j = i then .long x else f j) → own_Fin p e below s C N Q (T'.setTop (mkF m (pc + 1) Ls rest))) :
    own_Fin p e below s C N Q (T.setTop (mkF m pc Ls (.long x :: .int j :: .ref a :: rest))) := by
  have F' := F
  obtain ⟨cl, A, r, q⟩ := F
  exact own_st hj F' hN ge (stJ X hx hZ eT A (j := j) (own_in hj (by rw [r]; exact hi)) (g := mkF m pc Ls (.long x :: .int j :: .ref a :: rest)) rfl rfl hd) k
theorem own_bastore (X : Stand p l e R s m args below meth c T locs cells slots) (hx : p.tables.exec = Jvm.exec) (hZ : Z.Warmed39 s.vm) (eT : T.heap = h) (F : own_Arf Z h a .byte n f) (hN : Fr n0 locs) (ge : n0 ≤ a) {j x : Int32} {i : Nat} (hj : j.toInt = i) (hi : i < n) (hd : decode c.code pc = .ok (.bastore, 1))
    (k : ∀ T' h' locs', Stand p l e R s m args below meth c T' locs' cells slots → Fr n0 locs' → T'.heap = h' → Wr h h' a i (.int x.toInt8.toInt32) → own_Arf Z h' a .byte n (fun j => if j = i then .int x.toInt8.toInt32 else f j) → own_Fin p e below s C N Q (T'.setTop (mkF m (pc + 1) Ls rest))) :
    own_Fin p e below s C N Q (T.setTop (mkF m pc Ls (.int x :: .int j :: .ref a :: rest))) := by
  have F' := F
  obtain ⟨cl, A, r, q⟩ := F
  exact own_st hj F' hN ge (stB X hx hZ eT A (j := j) (own_in hj (by rw [r]; exact hi)) (g := mkF m pc Ls (.int x :: .int j :: .ref a :: rest)) rfl rfl hd) k
theorem own_castore (X : Stand p l e R s m args below meth c T locs cells slots) (hx : p.tables.exec = Jvm.exec) (hZ : Z.Warmed39 s.vm) (eT : T.heap = h) (F : own_Arf Z h a .char n f) (hN : Fr n0 locs) (ge : n0 ≤ a) {j x : Int32} {i : Nat} (hj : j.toInt = i) (hi : i < n) (hd : decode c.code pc = .ok (.castore, 1))
    (k : ∀ T' h' locs', Stand p l e R s m args below meth c T' locs' cells slots → Fr n0 locs' → T'.heap = h' → Wr h h' a i (.int x.toUInt32.toUInt16.toUInt32.toInt32) → own_Arf Z h' a .char n (fun j => if j = i then .int x.toUInt32.toUInt16.toUInt32.toInt32 else f j) → own_Fin p e below s C N Q (T'.setTop (mkF m (pc + 1) Ls rest))) :
    own_Fin p e below s C N Q (T.setTop (mkF m pc Ls (.int x :: .int j :: .ref a :: rest))) := by
  have F' := F
  obtain ⟨cl, A, r, q⟩ := F
  exact own_st hj F' hN ge (stC X hx hZ eT A (j := j) (own_in hj (by rw [r]; exact hi)) (g := mkF m pc Ls (.int x :: .int j :: .ref a :: rest)) rfl rfl hd) k
theorem own_zastore (X : Stand p l e R s m args below meth c T locs cells slots) (hx : p.tables.exec = Jvm.exec) (hZ : Z.Warmed39 s.vm) (eT : T.heap = h) (F : own_Arf Z h a .boolean n f) (hN : Fr n0 locs) (ge : n0 ≤ a) {j x : Int32} {i : Nat} (hj : j.toInt = i) (hi : i < n) (hd : decode c.code pc = .ok (.bastore, 1))
    (k : ∀ T' h' locs', Stand p l e R s m args below meth c T' locs' cells slots → Fr n0 locs' → T'.heap = h' → Wr h h' a i (.int (x &&& 1)) → own_Arf Z h' a .boolean n (fun j => if j = i then .int (x &&& 1) else f j) → own_Fin p e below s C N Q (T'.setTop (mkF m (pc + 1) Ls rest))) :
    own_Fin p e below s C N Q (T.setTop (mkF m pc Ls (.int x :: .int j :: .ref a :: rest))) := by
  have F' := F
  obtain ⟨cl, A, r, q⟩ := F
  exact own_st hj F' hN ge (stZ X hx hZ eT A (j := j) (own_in hj (by rw [r]; exact hi)) (g := mkF m pc Ls (.int x :: .int j :: .ref a :: rest)) rfl rfl hd) k
theorem own_newP (X : Stand p l e R s m args below meth c T locs cells slots) (hx : p.tables.exec = Jvm.exec) (hZ : Z.Warmed39 s.vm) {aty : ArrayType} (w : (Cond.arrayClass (newarray.typeOf aty)).before a0 Z = true) (eT : T.heap = h) (hd : decode c.code pc = .ok (.newarray aty, 2)) {z : Int32} (hz : z.toInt = n) {cap : Nat} (hcap : n ≤ cap) (hb : cap * 8 ≤ 536870912) (hc : cells + 1 ≤ R.cells) (hl : slots + cap ≤ R.slots)
    (k : ∀ T' h' b, Stand p l e R s m args below meth c T' locs (cells + 1) (slots + cap) → T'.heap = h' → Ext h h' → b = h.size → own_Arf Z h' b (newarray.typeOf aty) n (fun _ => defaultValue (newarray.typeOf aty)) → own_Fin p e below s C N Q (T'.setTop (mkF m (pc + 2) Ls (.ref b :: rest)))) :
    own_Fin p e below s C N Q (T.setTop (mkF m pc Ls (.int z :: rest))) := by
  obtain ⟨T', h', cA, X', e', E, A, st⟩ := newP X hx hZ w eT (g := mkF m pc Ls (.int z :: rest)) rfl hd rfl (by rw [Int32.lt_iff_toInt_lt, hz]; show ¬ (n : Int) < 0; omega) (cap := cap) (by rw [own_nc hz]; exact hcap) hb hc hl
  exact own_of st (k T' h' _ X' e' E rfl (own_Arf.new A hz))
end Ar
/-! objects -/
section Ob
variable {n0 : Nat} {v : Value}
theorem own_getF (X : Stand p l e R s m args below meth c T locs cells slots) (hx : p.tables.exec = Jvm.exec) (hZ : Z.Warmed39 s.vm) {own O n d : String} {index : Nat} (hown : s.vm.findClass own = some m.cls) (w : (Cond.fieldLink own index O n d).before a0 Z = true) (eT : T.heap = h) (F : Fld Z h a O n d v) (hd : decode c.code pc = .ok (.getfield index, 3))
    (k : ∀ T', Stand p l e R s m args below meth c T' locs cells slots → T'.heap = h → own_Fin p e below s C N Q (T'.setTop (mkF m (pc + 3) Ls (v :: rest)))) :
    own_Fin p e below s C N Q (T.setTop (mkF m pc Ls (.ref a :: rest))) := by
  obtain ⟨T', X', e', st⟩ := getF X hx hZ hown (host := "") (Or.inl w) Via.refl eT F (g := mkF m pc Ls (.ref a :: rest)) rfl rfl hd
  exact own_of st (k T' X' e')
theorem own_putF (X : Stand p l e R s m args below meth c T locs cells slots) (hx : p.tables.exec = Jvm.exec) (hZ : Z.Warmed39 s.vm) {own O n d K : String} {index kk : Nat} {ty : FieldType} {old : Value} (hown : s.vm.findClass own = some m.cls) (w : (Cond.fieldLink own index O n d).before a0 Z = true) (eT : T.heap = h) (F : Fld Z h a O n d old) (E : Exa Z h a K)
    (L : (Cond.lays K O n d).before a0 Z = true ∨ ((Cond.laysFinal K O n d).before a0 Z = true ∧ own = O ∧ meth.name = "<init>")) (wi : (Cond.instantiable K kk).before a0 Z = true) (hty : parseFieldDescriptor d = some ty) (hn : narrow ty v = v) (hf : fits ty v = true) (hN : Fr n0 locs) (ge : n0 ≤ a) (hd : decode c.code pc = .ok (.putfield index, 3))
    (k : ∀ T' h' locs', Stand p l e R s m args below meth c T' locs' cells slots → Fr n0 locs' → T'.heap = h' → Wr h h' a (slotOf Z O n d) v → own_Fin p e below s C N Q (T'.setTop (mkF m (pc + 3) Ls rest))) :
    own_Fin p e below s C N Q (T.setTop (mkF m pc Ls (v :: .ref a :: rest))) := by
  obtain ⟨T', h', X', e', W, st⟩ := putF X hx hZ hown (host := "") (Or.inl w) Via.refl eT F E L wi hty hn hf (g := mkF m pc Ls (v :: .ref a :: rest)) rfl rfl hd
  exact own_of st (k T' h' _ X' (Fr.snoc X' hN ge) e' W)
theorem own_newO (X : Stand p l e R s m args below meth c T locs cells slots) (hx : p.tables.exec = Jvm.exec) (hZ : Z.Warmed39 s.vm) {own K : String} {index n : Nat} (hown : s.vm.findClass own = some m.cls) (w : (Cond.classLink own index K).before a0 Z = true) (wi : (Cond.instantiable K n).before a0 Z = true) (wz : (Cond.initialized K).before a0 Z = true) (eT : T.heap = h) (hd : decode c.code pc = .ok (.new index, 3)) (hc : cells + 1 ≤ R.cells) (hl : slots + n ≤ R.slots)
    (k : ∀ T' h' b, Stand p l e R s m args below meth c T' locs (cells + 1) (slots + n) → T'.heap = h' → Ext h h' → b = h.size → Exa Z h' b K → (∀ {O nm d : String} {ty : FieldType}, Laid Z a0 K O nm d → parseFieldDescriptor d = some ty → Fld Z h' b O nm d (defaultValue ty)) → own_Fin p e below s C N Q (T'.setTop (mkF m (pc + 3) Ls (.ref b :: rest)))) :
    own_Fin p e below s C N Q (T.setTop (mkF m pc Ls rest)) := by
  obtain ⟨T', h', X', e', E, A, D, -, st⟩ := newO X hx hZ hown w wi wz eT (g := mkF m pc Ls rest) rfl hd hc hl
  exact own_of st (k T' h' _ X' e' E rfl A D)
theorem own_initO (X : Stand p l e R s m args below meth c T locs cells slots) (hx : p.tables.exec = Jvm.exec) (hZ : Z.Warmed39 s.vm) {own : String} {idx : Nat} (hown : s.vm.findClass own = some m.cls) (w1 : (Cond.methodLink own idx Lib.objectInit).before a0 Z = true) (w2 : (Cond.instanceMethod Lib.objectInit).before a0 Z = true) (w3 : (Cond.code Lib.objectInit ⟨#[0xb1]⟩ 1 none).before a0 Z = true) (eT : T.heap = h) (hsize : Ls.size = c.maxLocals) (hd : decode c.code pc = .ok (.invokespecial idx, 3)) (hf : 1 ≤ R.frames) {W : Nat} (hW : (rest.map fun v => v.category).sum ≤ W) (hl : W + 12 ≤ R.locals)
    (k : ∀ T', Stand p l e R s m args below meth c T' locs cells slots → T'.heap = h → own_Fin p e below s C N Q (T'.setTop (mkF m (pc + 3) Ls rest))) :
    own_Fin p e below s C N Q (T.setTop (mkF m pc Ls (.ref a :: rest))) := by
  obtain ⟨T', X', e', st⟩ := initO X hx hZ hown w1 w2 w3 eT (g := mkF m pc Ls (.ref a :: rest)) rfl hsize rfl hd hf (W := W) (by show 2 * 0 + _ ≤ _; simpa using hW) hl
  exact own_of st (k T' X' e')
theorem own_wide (X : Stand p l e R s m args below meth c T locs cells slots) {cells' slots' : Nat} (h1 : cells ≤ cells') (h2 : slots ≤ slots') : Stand p l e R s m args below meth c T locs cells' slots' := { X with same := X.same.mono h1 h2 }
end Ob
theorem own_lremM {g : JFrame} {target : State} (X : Stand p l e R s m args below meth c T locs cells slots) (hx : p.tables.exec = Jvm.exec) (hg : g.method = m) {x y : Int64} (hd : decode c.code g.pc = .ok (.lrem, 1)) (hs : g.stack = .long y :: .long x :: rest) (hy : y ≠ 0)
    (hr : Steps p.tables e below (T.setTop { g with pc := g.pc + 1, stack := .long (x % y) :: rest }) target) : Steps p.tables e below (T.setTop g) target := by
  refine XS.lrem X.here hx hg hd hs hy ?_
  rw [lrem_mod]; exact hr
end OwnKit
def own_iushr (x y : Int32) : Int32 := (x.toUInt32 >>> (y &&& 31).toUInt32).toInt32
def own_ishl (x y : Int32) : Int32 := x <<< (y &&& 31)
def own_ishr (x y : Int32) : Int32 := x >>> (y &&& 31)
def own_lushr (x : Int64) (y : Int32) : Int64 := (x.toUInt64 >>> (y &&& 0x3f).toInt64.toUInt64).toInt64
def own_lshl (x : Int64) (y : Int32) : Int64 := x <<< (y &&& 0x3f).toInt64
def own_lshr (x : Int64) (y : Int32) : Int64 := x >>> (y &&& 0x3f).toInt64
def own_i2b (x : Int32) : Int32 := x.toInt8.toInt32
def own_i2c (x : Int32) : Int32 := x.toUInt32.toUInt16.toUInt32.toInt32
def own_i2s (x : Int32) : Int32 := x.toInt16.toInt32
end Jvm.RoadKit
namespace Jvm.Pilot.@@N@@
open Jvm Jvm.ClassFile Sem Op Lib Jvm.Free Jvm.Stand Jvm.LawKit Jvm.RoadKit Bundle Jvm.Pilot.@@N@@.Jvm.D
theorem d1_0 : decode prog_81_method_1_code 0 = .ok (.aload_n 0, 1) := by decide +kernel
theorem d1_1 : decode prog_81_method_1_code 1 = .ok (.invokespecial 1, 3) := by decide +kernel
theorem d1_4 : decode prog_81_method_1_code 4 = .ok (.aload_n 0, 1) := by decide +kernel
theorem d1_5 : decode prog_81_method_1_code 5 = .ok (.iload_n 1, 1) := by decide +kernel
theorem d1_6 : decode prog_81_method_1_code 6 = .ok (.newarray .long, 2) := by decide +kernel
theorem d1_8 : decode prog_81_method_1_code 8 = .ok (.putfield 7, 3) := by decide +kernel
theorem d1_11 : decode prog_81_method_1_code 11 = .ok (.aload_n 0, 1) := by decide +kernel
theorem d1_12 : decode prog_81_method_1_code 12 = .ok (.iload_n 1, 1) := by decide +kernel
theorem d1_13 : decode prog_81_method_1_code 13 = .ok (.newarray .int, 2) := by decide +kernel
theorem d1_15 : decode prog_81_method_1_code 15 = .ok (.putfield 13, 3) := by decide +kernel
theorem d1_18 : decode prog_81_method_1_code 18 = .ok (.aload_n 0, 1) := by decide +kernel
theorem d1_19 : decode prog_81_method_1_code 19 = .ok (.iload_n 1, 1) := by decide +kernel
theorem d1_20 : decode prog_81_method_1_code 20 = .ok (.newarray .boolean, 2) := by decide +kernel
theorem d1_22 : decode prog_81_method_1_code 22 = .ok (.putfield 17, 3) := by decide +kernel
theorem d1_25 : decode prog_81_method_1_code 25 = .ok (.return_, 1) := by decide +kernel
theorem d3_0 : decode prog_81_method_6_code 0 = .ok (.iconst 0, 1) := by decide +kernel
theorem d3_1 : decode prog_81_method_6_code 1 = .ok (.istore_n 1, 1) := by decide +kernel
theorem d3_2 : decode prog_81_method_6_code 2 = .ok (.iload_n 1, 1) := by decide +kernel
theorem d3_3 : decode prog_81_method_6_code 3 = .ok (.aload_n 0, 1) := by decide +kernel
theorem d3_4 : decode prog_81_method_6_code 4 = .ok (.getfield 21, 3) := by decide +kernel
theorem d3_7 : decode prog_81_method_6_code 7 = .ok (.if_icmp .ge 33, 3) := by decide +kernel
theorem d3_10 : decode prog_81_method_6_code 10 = .ok (.aload_n 0, 1) := by decide +kernel
theorem d3_11 : decode prog_81_method_6_code 11 = .ok (.getfield 7, 3) := by decide +kernel
theorem d3_14 : decode prog_81_method_6_code 14 = .ok (.aload_n 0, 1) := by decide +kernel
theorem d3_15 : decode prog_81_method_6_code 15 = .ok (.getfield 13, 3) := by decide +kernel
theorem d3_18 : decode prog_81_method_6_code 18 = .ok (.iload_n 1, 1) := by decide +kernel
theorem d3_19 : decode prog_81_method_6_code 19 = .ok (.iaload, 1) := by decide +kernel
theorem d3_20 : decode prog_81_method_6_code 20 = .ok (.lconst 0, 1) := by decide +kernel
theorem d3_21 : decode prog_81_method_6_code 21 = .ok (.lastore, 1) := by decide +kernel
theorem d3_22 : decode prog_81_method_6_code 22 = .ok (.aload_n 0, 1) := by decide +kernel
theorem d3_23 : decode prog_81_method_6_code 23 = .ok (.getfield 17, 3) := by decide +kernel
theorem d3_26 : decode prog_81_method_6_code 26 = .ok (.aload_n 0, 1) := by decide +kernel
theorem d3_27 : decode prog_81_method_6_code 27 = .ok (.getfield 13, 3) := by decide +kernel
theorem d3_30 : decode prog_81_method_6_code 30 = .ok (.iload_n 1, 1) := by decide +kernel
theorem d3_31 : decode prog_81_method_6_code 31 = .ok (.iaload, 1) := by decide +kernel
theorem d3_32 : decode prog_81_method_6_code 32 = .ok (.iconst 0, 1) := by decide +kernel
theorem d3_33 : decode prog_81_method_6_code 33 = .ok (.bastore, 1) := by decide +kernel
theorem d3_34 : decode prog_81_method_6_code 34 = .ok (.iinc 1 1, 3) := by decide +kernel
theorem d3_37 : decode prog_81_method_6_code 37 = .ok (.goto (-35), 3) := by decide +kernel
theorem d3_40 : decode prog_81_method_6_code 40 = .ok (.aload_n 0, 1) := by decide +kernel
theorem d3_41 : decode prog_81_method_6_code 41 = .ok (.iconst 0, 1) := by decide +kernel
theorem d3_42 : decode prog_81_method_6_code 42 = .ok (.putfield 21, 3) := by decide +kernel
theorem d3_45 : decode prog_81_method_6_code 45 = .ok (.return_, 1) := by decide +kernel
theorem d4_0 : decode prog_81_method_3_code 0 = .ok (.aload_n 0, 1) := by decide +kernel
theorem d4_1 : decode prog_81_method_3_code 1 = .ok (.getfield 21, 3) := by decide +kernel
theorem d4_4 : decode prog_81_method_3_code 4 = .ok (.ireturn, 1) := by decide +kernel
theorem d5_0 : decode prog_81_method_2_code 0 = .ok (.aload_n 0, 1) := by decide +kernel
theorem d5_1 : decode prog_81_method_2_code 1 = .ok (.getfield 17, 3) := by decide +kernel
theorem d5_4 : decode prog_81_method_2_code 4 = .ok (.iload_n 1, 1) := by decide +kernel
theorem d5_5 : decode prog_81_method_2_code 5 = .ok (.baload, 1) := by decide +kernel
theorem d5_6 : decode prog_81_method_2_code 6 = .ok (.ifCond .ne 27, 3) := by decide +kernel
theorem d5_9 : decode prog_81_method_2_code 9 = .ok (.aload_n 0, 1) := by decide +kernel
theorem d5_10 : decode prog_81_method_2_code 10 = .ok (.getfield 13, 3) := by decide +kernel
theorem d5_13 : decode prog_81_method_2_code 13 = .ok (.aload_n 0, 1) := by decide +kernel
theorem d5_14 : decode prog_81_method_2_code 14 = .ok (.dup, 1) := by decide +kernel
theorem d5_15 : decode prog_81_method_2_code 15 = .ok (.getfield 21, 3) := by decide +kernel
theorem d5_18 : decode prog_81_method_2_code 18 = .ok (.dup_x1, 1) := by decide +kernel
theorem d5_19 : decode prog_81_method_2_code 19 = .ok (.iconst 1, 1) := by decide +kernel
theorem d5_20 : decode prog_81_method_2_code 20 = .ok (.iadd, 1) := by decide +kernel
theorem d5_21 : decode prog_81_method_2_code 21 = .ok (.putfield 21, 3) := by decide +kernel
theorem d5_24 : decode prog_81_method_2_code 24 = .ok (.iload_n 1, 1) := by decide +kernel
theorem d5_25 : decode prog_81_method_2_code 25 = .ok (.iastore, 1) := by decide +kernel
theorem d5_26 : decode prog_81_method_2_code 26 = .ok (.aload_n 0, 1) := by decide +kernel
theorem d5_27 : decode prog_81_method_2_code 27 = .ok (.getfield 17, 3) := by decide +kernel
theorem d5_30 : decode prog_81_method_2_code 30 = .ok (.iload_n 1, 1) := by decide +kernel
theorem d5_31 : decode prog_81_method_2_code 31 = .ok (.iconst 1, 1) := by decide +kernel
theorem d5_32 : decode prog_81_method_2_code 32 = .ok (.bastore, 1) := by decide +kernel
theorem d5_33 : decode prog_81_method_2_code 33 = .ok (.aload_n 0, 1) := by decide +kernel
theorem d5_34 : decode prog_81_method_2_code 34 = .ok (.getfield 7, 3) := by decide +kernel
theorem d5_37 : decode prog_81_method_2_code 37 = .ok (.iload_n 1, 1) := by decide +kernel
theorem d5_38 : decode prog_81_method_2_code 38 = .ok (.dup2, 1) := by decide +kernel
theorem d5_39 : decode prog_81_method_2_code 39 = .ok (.laload, 1) := by decide +kernel
theorem d5_40 : decode prog_81_method_2_code 40 = .ok (.lload_n 2, 1) := by decide +kernel
theorem d5_41 : decode prog_81_method_2_code 41 = .ok (.ladd, 1) := by decide +kernel
theorem d5_42 : decode prog_81_method_2_code 42 = .ok (.lastore, 1) := by decide +kernel
theorem d5_43 : decode prog_81_method_2_code 43 = .ok (.return_, 1) := by decide +kernel
theorem d6_0 : decode prog_81_method_4_code 0 = .ok (.aload_n 0, 1) := by decide +kernel
theorem d6_1 : decode prog_81_method_4_code 1 = .ok (.getfield 13, 3) := by decide +kernel
theorem d6_4 : decode prog_81_method_4_code 4 = .ok (.iload_n 1, 1) := by decide +kernel
theorem d6_5 : decode prog_81_method_4_code 5 = .ok (.iaload, 1) := by decide +kernel
theorem d6_6 : decode prog_81_method_4_code 6 = .ok (.ireturn, 1) := by decide +kernel
theorem d7_0 : decode prog_81_method_5_code 0 = .ok (.aload_n 0, 1) := by decide +kernel
theorem d7_1 : decode prog_81_method_5_code 1 = .ok (.getfield 7, 3) := by decide +kernel
theorem d7_4 : decode prog_81_method_5_code 4 = .ok (.iload_n 1, 1) := by decide +kernel
theorem d7_5 : decode prog_81_method_5_code 5 = .ok (.laload, 1) := by decide +kernel
theorem d7_6 : decode prog_81_method_5_code 6 = .ok (.lreturn, 1) := by decide +kernel
theorem pd_0 : parseMethodDescriptor "()I" = some ⟨[], some .int⟩ := by decide +kernel
theorem pd_1 : parseMethodDescriptor "()V" = some ⟨[], none⟩ := by decide +kernel
theorem pd_2 : parseMethodDescriptor "(I)I" = some ⟨[.int], some .int⟩ := by decide +kernel
theorem pd_3 : parseMethodDescriptor "(I)J" = some ⟨[.int], some .long⟩ := by decide +kernel
theorem pd_4 : parseMethodDescriptor "(I)V" = some ⟨[.int], none⟩ := by decide +kernel
theorem pd_5 : parseMethodDescriptor "(IJ)V" = some ⟨[.int, .long], none⟩ := by decide +kernel
theorem pd_6 : parseMethodDescriptor "(IJJJJ)Z" = some ⟨[.int, .long, .long, .long, .long], some .boolean⟩ := by decide +kernel
theorem pn_0 : plainFor x = true := plainFor_of_name (by first | (simp [plainName, overriddenIn]; done) | decide +kernel)
theorem ef_0 (m : MethodId) (x0 : Int32) (x1 : Int64) (x2 : Int64) (x3 : Int64) (x4 : Int64) : entryFrame m #[(.int x0), (.long x1), (.long x2), (.long x3), (.long x4)] maxLocals = mkF m 0 #[.val (.int x0), .val (.long x1), .second, .val (.long x2), .second, .val (.long x3), .second, .val (.long x4), .second, .unset, .unset, .unset, .unset, .unset, .unset, .unset, .unset, .unset, .unset, .unset, .unset, .unset] [] := by first | (simp [entryFrame, mkF, argsToLocals, Value.category, maxLocals]; done) | rfl
theorem pn_1 : plainFor (⟨"com/example/shardloom/shardloom/Ties", "<init>", "(I)V"⟩ : MethodName) = true := plainFor_of_name (by first | (simp [plainName, overriddenIn]; done) | decide +kernel)
theorem ef_1 (m : MethodId) (x0 : Addr) (x1 : Int32) : entryFrame m #[(.ref x0), (.int x1)] 2 = mkF m 0 #[.val (.ref x0), .val (.int x1)] [] := by first | (simp [entryFrame, mkF, argsToLocals, Value.category]; done) | rfl
theorem pn_3 : plainFor (⟨"com/example/shardloom/shardloom/Ties", "clear", "()V"⟩ : MethodName) = true := plainFor_of_name (by first | (simp [plainName, overriddenIn]; done) | decide +kernel)
theorem ef_3 (m : MethodId) (x0 : Addr) : entryFrame m #[(.ref x0)] 2 = mkF m 0 #[.val (.ref x0), .unset] [] := by first | (simp [entryFrame, mkF, argsToLocals, Value.category]; done) | rfl
theorem pn_4 : plainFor (⟨"com/example/shardloom/shardloom/Ties", "count", "()I"⟩ : MethodName) = true := plainFor_of_name (by first | (simp [plainName, overriddenIn]; done) | decide +kernel)
theorem ef_4 (m : MethodId) (x0 : Addr) : entryFrame m #[(.ref x0)] 1 = mkF m 0 #[.val (.ref x0)] [] := by first | (simp [entryFrame, mkF, argsToLocals, Value.category]; done) | rfl
theorem pn_5 : plainFor (⟨"com/example/shardloom/shardloom/Ties", "add", "(IJ)V"⟩ : MethodName) = true := plainFor_of_name (by first | (simp [plainName, overriddenIn]; done) | decide +kernel)
theorem ef_5 (m : MethodId) (x0 : Addr) (x1 : Int32) (x2 : Int64) : entryFrame m #[(.ref x0), (.int x1), (.long x2)] 4 = mkF m 0 #[.val (.ref x0), .val (.int x1), .val (.long x2), .second] [] := by first | (simp [entryFrame, mkF, argsToLocals, Value.category]; done) | rfl
theorem pn_6 : plainFor (⟨"com/example/shardloom/shardloom/Ties", "key", "(I)I"⟩ : MethodName) = true := plainFor_of_name (by first | (simp [plainName, overriddenIn]; done) | decide +kernel)
theorem ef_6 (m : MethodId) (x0 : Addr) (x1 : Int32) : entryFrame m #[(.ref x0), (.int x1)] 2 = mkF m 0 #[.val (.ref x0), .val (.int x1)] [] := by first | (simp [entryFrame, mkF, argsToLocals, Value.category]; done) | rfl
theorem pn_7 : plainFor (⟨"com/example/shardloom/shardloom/Ties", "weight", "(I)J"⟩ : MethodName) = true := plainFor_of_name (by first | (simp [plainName, overriddenIn]; done) | decide +kernel)
theorem ef_7 (m : MethodId) (x0 : Addr) (x1 : Int32) : entryFrame m #[(.ref x0), (.int x1)] 2 = mkF m 0 #[.val (.ref x0), .val (.int x1)] [] := by first | (simp [entryFrame, mkF, argsToLocals, Value.category]; done) | rfl
theorem own_all8 {P : Int8 → Prop} (h : ∀ n : Fin 256, P (.ofBitVec (.ofFin n))) (b : Int8) : P b := by
  have := h b.toBitVec.toFin
  simpa using this
theorem own_fin (x : Int32) (K : Nat) (h0 : 0 ≤ x.toInt) (h1 : x.toInt < K) : ∃ n : Nat, n < K ∧ x = Int32.ofInt (n : Int) :=
  ⟨x.toInt.toNat, by omega, by rw [Int.toNat_of_nonneg h0, Int32.ofInt_toInt]⟩
theorem own_lushr_nat (x : Int64) (q : Int32) (k : Nat) (hk : q.toBitVec.toNat % 64 = k) : (own_lushr x q).toBitVec.toNat = x.toBitVec.toNat / 2 ^ k := by
  show (x.toBitVec >>> ((q &&& 0x3f).toInt64.toBitVec % 64)).toNat = _
  rw [BitVec.ushiftRight_eq', BitVec.toNat_ushiftRight, Nat.shiftRight_eq_div_pow, BitVec.toNat_umod, (sm64 q k hk).1, BitVec.toNat_ofNat]
  congr 2
  have := (sm64 q k hk).2
  show k % 2 ^ 64 % 64 = k
  omega
theorem own_l0 (x : Int64) : x = 0 ↔ x.toBitVec.toNat = 0 := ⟨fun h => by subst h; rfl, fun h => Int64.toBitVec_inj.mp (BitVec.eq_of_toNat_eq h)⟩
theorem own_shsh (x : Int64) (a b c : Int32) (i j : Nat) (ha : a.toBitVec.toNat % 64 = i) (hb : b.toBitVec.toNat % 64 = j) (hc : c.toBitVec.toNat % 64 = i + j) : own_lushr (own_lushr x a) b = own_lushr x c := by
  apply Int64.toBitVec_inj.mp
  apply BitVec.eq_of_toNat_eq
  rw [own_lushr_nat _ b j hb, own_lushr_nat x a i ha, own_lushr_nat x c _ hc, Nat.div_div_eq_div_mul, Nat.pow_add]
theorem own_shz (x : Int64) (a b : Int32) (i j : Nat) (ha : a.toBitVec.toNat % 64 = i) (hb : b.toBitVec.toNat % 64 = j) (h : 64 ≤ i + j) : own_lushr (own_lushr x a) b = 0 := by
  rw [own_l0, own_lushr_nat _ b j hb, own_lushr_nat x a i ha, Nat.div_div_eq_div_mul, ← Nat.pow_add]
  exact Nat.div_eq_of_lt (Nat.lt_of_lt_of_le x.toBitVec.isLt (Nat.pow_le_pow_right (by decide) h))
theorem own_true {P : Prop} [Decidable P] (h : P) : ((if P then (1 : Int32) else (0 : Int32)) &&& 1) = 1 := by rw [if_pos h]; rfl
def own_Obj (Z : State) (h : Heap) (n0 : Nat) (o : Addr) (ct : Int32) (a1 a2 a3 : Addr) (W : Nat → Int64) (K B : Nat → Int32) : Prop :=
  Exa Z h o "com/example/shardloom/shardloom/Ties" ∧ Fld Z h o "com/example/shardloom/shardloom/Ties" "count" "I" (.int ct) ∧ Fld Z h o "com/example/shardloom/shardloom/Ties" "weight" "[J" (.ref a1) ∧ Fld Z h o "com/example/shardloom/shardloom/Ties" "keys" "[I" (.ref a2) ∧ Fld Z h o "com/example/shardloom/shardloom/Ties" "listed" "[Z" (.ref a3) ∧
  own_Arf Z h a1 .long 4 (fun j => .long (W j)) ∧ own_Arf Z h a2 .int 4 (fun j => .int (K j)) ∧ own_Arf Z h a3 .boolean 4 (fun j => .int (B j)) ∧
  (o ≠ a1 ∧ o ≠ a2 ∧ o ≠ a3 ∧ a1 ≠ a2 ∧ a1 ≠ a3 ∧ a2 ≠ a3) ∧ n0 ≤ o ∧ n0 ≤ a1 ∧ n0 ≤ a2 ∧ n0 ≤ a3
set_option maxRecDepth 65536 in
set_option maxHeartbeats 40000000 in
theorem met1 (l : Launch) (Z : State) (a0 : Array Value) (hw : ∀ d ∈ tables_1, d.before a0 Z = true) (x0 : Addr) (x1 : Int32) (h0 : Heap) (n0 : Nat) (Z0 : n0 ≤ h0.size) (h4 : x1 = 4) (E : Exa Z h0 x0 "com/example/shardloom/shardloom/Ties") (Fc : Fld Z h0 x0 "com/example/shardloom/shardloom/Ties" "count" "I" (.int (0 : Int32))) (Fw : Fld Z h0 x0 "com/example/shardloom/shardloom/Ties" "weight" "[J" .null) (Fk : Fld Z h0 x0 "com/example/shardloom/shardloom/Ties" "keys" "[I" .null) (Fl : Fld Z h0 x0 "com/example/shardloom/shardloom/Ties" "listed" "[Z" .null) (go : n0 ≤ x0) :
    own_Met l Z (⟨"com/example/shardloom/shardloom/Ties", "<init>", "(I)V"⟩ : MethodName) prog_81_method_1_code 2 none { frames := 1, cells := 3, slots := 12, locals := 12 } #[(.ref x0), (.int x1)] h0 (fun v h L => v = none ∧ Fr n0 L ∧ n0 ≤ h.size ∧ ∃ a1 a2 a3, own_Obj Z h n0 x0 0 a1 a2 a3 (fun _ => 0) (fun _ => 0) (fun _ => 0)) := by
  refine own_met pn_1 ?_
  intro p e s m below meth c T0 X0 hx hby hml hown hZ e0 hret hlk hnm
  rw [ef_1 m x0 x1]
  have N0 := Fr.nil n0
  subst h4
  show own_Fin _ _ _ _ _ _ _ (T0.setTop (mkF m 0 #[.val (.ref x0), .val (.int (4 : Int32))] []))
  refine own_of (fun _ kk => XS.aloadN X0.here hx rfl (hb hby d1_0) rfl rfl kk) ?_
  show own_Fin _ _ _ _ _ _ _ (T0.setTop (mkF m 1 #[.val (.ref x0), .val (.int (4 : Int32))] [(.ref x0)]))
  refine own_initO X0 hx hZ hown (hw _ (List.mem_of_getElem? (i := 6) rfl)) (hw _ (List.mem_of_getElem? (i := 7) rfl)) (hw _ (List.mem_of_getElem? (i := 8) rfl)) e0 (by rw [hml]; rfl) (hb hby d1_1) (by decide) (W := 0) (Nat.le_of_eq rfl) (by decide) ?_
  intro T1 X1 e1
  show own_Fin _ _ _ _ _ _ _ (T1.setTop (mkF m 4 #[.val (.ref x0), .val (.int (4 : Int32))] []))
  refine own_of (fun _ kk => XS.aloadN X1.here hx rfl (hb hby d1_4) rfl rfl kk) ?_
  show own_Fin _ _ _ _ _ _ _ (T1.setTop (mkF m 5 #[.val (.ref x0), .val (.int (4 : Int32))] [(.ref x0)]))
  refine own_of (fun _ kk => XS.iloadN X1.here hx rfl (hb hby d1_5) rfl kk) ?_
  show own_Fin _ _ _ _ _ _ _ (T1.setTop (mkF m 6 #[.val (.ref x0), .val (.int (4 : Int32))] [(.int (4 : Int32)), (.ref x0)]))
  refine own_newP X1 hx hZ (hw _ (List.mem_of_getElem? (i := 9) rfl)) e1 (hb hby d1_6) (n := 4) (by decide) (cap := 4) (Nat.le_refl _) (by decide) (by decide) (by decide) ?_
  intro T2 h2 b2 X2 e2 E2 g2 A2
  have ne_x0_b2 : x0 ≠ b2 := Nat.ne_of_lt (by rw [g2]; exact E.lt)
  replace E := E.ext E2
  replace Fc := Fc.ext E2
  replace Fw := Fw.ext E2
  replace Fk := Fk.ext E2
  replace Fl := Fl.ext E2
  have Z2 : n0 ≤ h2.size := Nat.le_trans Z0 E2.1
  have ge_b2 : n0 ≤ b2 := by rw [g2]; exact Z0
  replace A2 : own_Arf Z h2 b2 .long 4 (fun _ => (.long (0 : Int64))) := A2
  show own_Fin _ _ _ _ _ _ _ (T2.setTop (mkF m 8 #[.val (.ref x0), .val (.int (4 : Int32))] [(.ref b2), (.ref x0)]))
  refine own_putF X2 hx hZ hown (hw _ (List.mem_of_getElem? (i := 10) rfl)) e2 Fw E (Or.inr ⟨(hw _ (List.mem_of_getElem? (i := 11) rfl)), rfl, hnm⟩) (hw _ (List.mem_of_getElem? (i := 1) rfl)) (ty := (.array .long)) (by decide) rfl rfl N0 go (hb hby d1_8) ?_
  intro T3 h3 l3 X3 N3 e3 W3
  have ZW3 : n0 ≤ h3.size := by rw [Wr.size W3]; exact Z2
  replace E := E.wr W3
  replace Fc := Fc.other W3 (Or.inr (slot_ne (Or.inl (hw _ (List.mem_of_getElem? (i := 24) rfl))) (Or.inr (hw _ (List.mem_of_getElem? (i := 11) rfl))) (by decide) (t := .int) (t' := (.array .long)) (by decide) (by decide)))
  replace Fw := Fw.same W3
  replace Fk := Fk.other W3 (Or.inr (slot_ne (Or.inr (hw _ (List.mem_of_getElem? (i := 14) rfl))) (Or.inr (hw _ (List.mem_of_getElem? (i := 11) rfl))) (by decide) (t := (.array .int)) (t' := (.array .long)) (by decide) (by decide)))
  replace Fl := Fl.other W3 (Or.inr (slot_ne (Or.inr (hw _ (List.mem_of_getElem? (i := 17) rfl))) (Or.inr (hw _ (List.mem_of_getElem? (i := 11) rfl))) (by decide) (t := (.array .boolean)) (t' := (.array .long)) (by decide) (by decide)))
  replace A2 := A2.other W3 (Ne.symm ne_x0_b2)
  show own_Fin _ _ _ _ _ _ _ (T3.setTop (mkF m 11 #[.val (.ref x0), .val (.int (4 : Int32))] []))
  refine own_of (fun _ kk => XS.aloadN X3.here hx rfl (hb hby d1_11) rfl rfl kk) ?_
  show own_Fin _ _ _ _ _ _ _ (T3.setTop (mkF m 12 #[.val (.ref x0), .val (.int (4 : Int32))] [(.ref x0)]))
  refine own_of (fun _ kk => XS.iloadN X3.here hx rfl (hb hby d1_12) rfl kk) ?_
  show own_Fin _ _ _ _ _ _ _ (T3.setTop (mkF m 13 #[.val (.ref x0), .val (.int (4 : Int32))] [(.int (4 : Int32)), (.ref x0)]))
  refine own_newP X3 hx hZ (hw _ (List.mem_of_getElem? (i := 12) rfl)) e3 (hb hby d1_13) (n := 4) (by decide) (cap := 4) (Nat.le_refl _) (by decide) (by decide) (by decide) ?_
  intro T4 h4 b4 X4 e4 E4 g4 A4
  have ne_x0_b4 : x0 ≠ b4 := Nat.ne_of_lt (by rw [g4]; exact E.lt)
  have ne_b2_b4 : b2 ≠ b4 := Nat.ne_of_lt (by rw [g4]; exact A2.lt)
  replace E := E.ext E4
  replace Fc := Fc.ext E4
  replace Fw := Fw.ext E4
  replace Fk := Fk.ext E4
  replace Fl := Fl.ext E4
  replace A2 := A2.ext E4
  have Z4 : n0 ≤ h4.size := Nat.le_trans ZW3 E4.1
  have ge_b4 : n0 ≤ b4 := by rw [g4]; exact ZW3
  replace A4 : own_Arf Z h4 b4 .int 4 (fun _ => (.int (0 : Int32))) := A4
  show own_Fin _ _ _ _ _ _ _ (T4.setTop (mkF m 15 #[.val (.ref x0), .val (.int (4 : Int32))] [(.ref b4), (.ref x0)]))
  refine own_putF X4 hx hZ hown (hw _ (List.mem_of_getElem? (i := 13) rfl)) e4 Fk E (Or.inr ⟨(hw _ (List.mem_of_getElem? (i := 14) rfl)), rfl, hnm⟩) (hw _ (List.mem_of_getElem? (i := 1) rfl)) (ty := (.array .int)) (by decide) rfl rfl N3 go (hb hby d1_15) ?_
  intro T5 h5 l5 X5 N5 e5 W5
  have ZW5 : n0 ≤ h5.size := by rw [Wr.size W5]; exact Z4
  replace E := E.wr W5
  replace Fc := Fc.other W5 (Or.inr (slot_ne (Or.inl (hw _ (List.mem_of_getElem? (i := 24) rfl))) (Or.inr (hw _ (List.mem_of_getElem? (i := 14) rfl))) (by decide) (t := .int) (t' := (.array .int)) (by decide) (by decide)))
  replace Fw := Fw.other W5 (Or.inr (slot_ne (Or.inr (hw _ (List.mem_of_getElem? (i := 11) rfl))) (Or.inr (hw _ (List.mem_of_getElem? (i := 14) rfl))) (by decide) (t := (.array .long)) (t' := (.array .int)) (by decide) (by decide)))
  replace Fk := Fk.same W5
  replace Fl := Fl.other W5 (Or.inr (slot_ne (Or.inr (hw _ (List.mem_of_getElem? (i := 17) rfl))) (Or.inr (hw _ (List.mem_of_getElem? (i := 14) rfl))) (by decide) (t := (.array .boolean)) (t' := (.array .int)) (by decide) (by decide)))
  replace A2 := A2.other W5 (Ne.symm ne_x0_b2)
  replace A4 := A4.other W5 (Ne.symm ne_x0_b4)
  show own_Fin _ _ _ _ _ _ _ (T5.setTop (mkF m 18 #[.val (.ref x0), .val (.int (4 : Int32))] []))
  refine own_of (fun _ kk => XS.aloadN X5.here hx rfl (hb hby d1_18) rfl rfl kk) ?_
  show own_Fin _ _ _ _ _ _ _ (T5.setTop (mkF m 19 #[.val (.ref x0), .val (.int (4 : Int32))] [(.ref x0)]))
  refine own_of (fun _ kk => XS.iloadN X5.here hx rfl (hb hby d1_19) rfl kk) ?_
  show own_Fin _ _ _ _ _ _ _ (T5.setTop (mkF m 20 #[.val (.ref x0), .val (.int (4 : Int32))] [(.int (4 : Int32)), (.ref x0)]))
  refine own_newP X5 hx hZ (hw _ (List.mem_of_getElem? (i := 15) rfl)) e5 (hb hby d1_20) (n := 4) (by decide) (cap := 4) (Nat.le_refl _) (by decide) (by decide) (by decide) ?_
  intro T6 h6 b6 X6 e6 E6 g6 A6
  have ne_x0_b6 : x0 ≠ b6 := Nat.ne_of_lt (by rw [g6]; exact E.lt)
  have ne_b2_b6 : b2 ≠ b6 := Nat.ne_of_lt (by rw [g6]; exact A2.lt)
  have ne_b4_b6 : b4 ≠ b6 := Nat.ne_of_lt (by rw [g6]; exact A4.lt)
  replace E := E.ext E6
  replace Fc := Fc.ext E6
  replace Fw := Fw.ext E6
  replace Fk := Fk.ext E6
  replace Fl := Fl.ext E6
  replace A2 := A2.ext E6
  replace A4 := A4.ext E6
  have Z6 : n0 ≤ h6.size := Nat.le_trans ZW5 E6.1
  have ge_b6 : n0 ≤ b6 := by rw [g6]; exact ZW5
  replace A6 : own_Arf Z h6 b6 .boolean 4 (fun _ => (.int (0 : Int32))) := A6
  show own_Fin _ _ _ _ _ _ _ (T6.setTop (mkF m 22 #[.val (.ref x0), .val (.int (4 : Int32))] [(.ref b6), (.ref x0)]))
  refine own_putF X6 hx hZ hown (hw _ (List.mem_of_getElem? (i := 16) rfl)) e6 Fl E (Or.inr ⟨(hw _ (List.mem_of_getElem? (i := 17) rfl)), rfl, hnm⟩) (hw _ (List.mem_of_getElem? (i := 1) rfl)) (ty := (.array .boolean)) (by decide) rfl rfl N5 go (hb hby d1_22) ?_
  intro T7 h7 l7 X7 N7 e7 W7
  have ZW7 : n0 ≤ h7.size := by rw [Wr.size W7]; exact Z6
  replace E := E.wr W7
  replace Fc := Fc.other W7 (Or.inr (slot_ne (Or.inl (hw _ (List.mem_of_getElem? (i := 24) rfl))) (Or.inr (hw _ (List.mem_of_getElem? (i := 17) rfl))) (by decide) (t := .int) (t' := (.array .boolean)) (by decide) (by decide)))
  replace Fw := Fw.other W7 (Or.inr (slot_ne (Or.inr (hw _ (List.mem_of_getElem? (i := 11) rfl))) (Or.inr (hw _ (List.mem_of_getElem? (i := 17) rfl))) (by decide) (t := (.array .long)) (t' := (.array .boolean)) (by decide) (by decide)))
  replace Fk := Fk.other W7 (Or.inr (slot_ne (Or.inr (hw _ (List.mem_of_getElem? (i := 14) rfl))) (Or.inr (hw _ (List.mem_of_getElem? (i := 17) rfl))) (by decide) (t := (.array .int)) (t' := (.array .boolean)) (by decide) (by decide)))
  replace Fl := Fl.same W7
  replace A2 := A2.other W7 (Ne.symm ne_x0_b2)
  replace A4 := A4.other W7 (Ne.symm ne_x0_b4)
  replace A6 := A6.other W7 (Ne.symm ne_x0_b6)
  show own_Fin _ _ _ _ _ _ _ (T7.setTop (mkF m 25 #[.val (.ref x0), .val (.int (4 : Int32))] []))
  exact own_retV X7 hx hlk e7 hret (hb hby d1_25) (by decide) (by decide) ⟨rfl, N7, ZW7, b2, b4, b6, E, Fc, Fw, Fk, Fl, A2, A4, A6, ⟨ne_x0_b2, ne_x0_b4, ne_x0_b6, ne_b2_b4, ne_b2_b6, ne_b4_b6⟩, go, ge_b2, ge_b4, ge_b6⟩
set_option maxRecDepth 65536 in
set_option maxHeartbeats 40000000 in
theorem met4 (l : Launch) (Z : State) (a0 : Array Value) (hw : ∀ d ∈ tables_1, d.before a0 Z = true) (x0 : Addr) (ct : Int32) (a1 : Addr) (a2 : Addr) (a3 : Addr) (W : Nat → Int64) (K : Nat → Int32) (B : Nat → Int32) (h0 : Heap) (n0 : Nat) (Z0 : n0 ≤ h0.size) (O : own_Obj Z h0 n0 x0 ct a1 a2 a3 W K B) :
    own_Met l Z (⟨"com/example/shardloom/shardloom/Ties", "count", "()I"⟩ : MethodName) prog_81_method_3_code 1 (some .int) { frames := 0, cells := 0, slots := 0, locals := 0 } #[(.ref x0)] h0 (fun v h L => own_Pure (.int ct) h0 v h L) := by
  refine own_met pn_4 ?_
  intro p e s m below meth c T0 X0 hx hby hml hown hZ e0 hret hlk hnm
  rw [ef_4 m x0]
  have N0 := Fr.nil n0
  obtain ⟨E, Fc, Fw, Fk, Fl, A1, A2, A3, ⟨ne1, ne2, ne3, ne4, ne5, ne6⟩, go, ga1, ga2, ga3⟩ := O
  show own_Fin _ _ _ _ _ _ _ (T0.setTop (mkF m 0 #[.val (.ref x0)] []))
  refine own_of (fun _ kk => XS.aloadN X0.here hx rfl (hb hby d4_0) rfl rfl kk) ?_
  show own_Fin _ _ _ _ _ _ _ (T0.setTop (mkF m 1 #[.val (.ref x0)] [(.ref x0)]))
  refine own_getF X0 hx hZ hown (hw _ (List.mem_of_getElem? (i := 23) rfl)) e0 Fc (hb hby d4_1) ?_
  intro T1 X1 e1
  show own_Fin _ _ _ _ _ _ _ (T1.setTop (mkF m 4 #[.val (.ref x0)] [(.int ct)]))
  exact own_retI X1 hx hlk e1 hret (hb hby d4_4) (by decide) (by decide) ⟨rfl, rfl, rfl⟩
set_option maxRecDepth 65536 in
set_option maxHeartbeats 40000000 in
theorem met6 (l : Launch) (Z : State) (a0 : Array Value) (hw : ∀ d ∈ tables_1, d.before a0 Z = true) (x0 : Addr) (x1 : Int32) (ct : Int32) (a1 : Addr) (a2 : Addr) (a3 : Addr) (W : Nat → Int64) (K : Nat → Int32) (B : Nat → Int32) (i : Nat) (r : Int32) (h0 : Heap) (n0 : Nat) (Z0 : n0 ≤ h0.size) (O : own_Obj Z h0 n0 x0 ct a1 a2 a3 W K B) (hj : x1.toInt = (i : Int)) (hi : i < 4) (hv : K i = r) :
    own_Met l Z (⟨"com/example/shardloom/shardloom/Ties", "key", "(I)I"⟩ : MethodName) prog_81_method_4_code 2 (some .int) { frames := 0, cells := 0, slots := 0, locals := 0 } #[(.ref x0), (.int x1)] h0 (fun v h L => own_Pure (.int r) h0 v h L) := by
  refine own_met pn_6 ?_
  intro p e s m below meth c T0 X0 hx hby hml hown hZ e0 hret hlk hnm
  rw [ef_6 m x0 x1]
  have N0 := Fr.nil n0
  obtain ⟨E, Fc, Fw, Fk, Fl, A1, A2, A3, ⟨ne1, ne2, ne3, ne4, ne5, ne6⟩, go, ga1, ga2, ga3⟩ := O
  show own_Fin _ _ _ _ _ _ _ (T0.setTop (mkF m 0 #[.val (.ref x0), .val (.int x1)] []))
  refine own_of (fun _ kk => XS.aloadN X0.here hx rfl (hb hby d6_0) rfl rfl kk) ?_
  show own_Fin _ _ _ _ _ _ _ (T0.setTop (mkF m 1 #[.val (.ref x0), .val (.int x1)] [(.ref x0)]))
  refine own_getF X0 hx hZ hown (hw _ (List.mem_of_getElem? (i := 13) rfl)) e0 Fk (hb hby d6_1) ?_
  intro T1 X1 e1
  show own_Fin _ _ _ _ _ _ _ (T1.setTop (mkF m 4 #[.val (.ref x0), .val (.int x1)] [(.ref a2)]))
  refine own_of (fun _ kk => XS.iloadN X1.here hx rfl (hb hby d6_4) rfl kk) ?_
  show own_Fin _ _ _ _ _ _ _ (T1.setTop (mkF m 5 #[.val (.ref x0), .val (.int x1)] [(.int x1), (.ref a2)]))
  refine own_iaload X1 hx hZ e1 A2 (i := i) hj hi (v := (.int r)) (by rw [hv]) (hb hby d6_5) ?_
  show own_Fin _ _ _ _ _ _ _ (T1.setTop (mkF m 6 #[.val (.ref x0), .val (.int x1)] [(.int r)]))
  exact own_retI X1 hx hlk e1 hret (hb hby d6_6) (by decide) (by decide) ⟨rfl, rfl, rfl⟩
set_option maxRecDepth 65536 in
set_option maxHeartbeats 40000000 in
theorem met7 (l : Launch) (Z : State) (a0 : Array Value) (hw : ∀ d ∈ tables_1, d.before a0 Z = true) (x0 : Addr) (x1 : Int32) (ct : Int32) (a1 : Addr) (a2 : Addr) (a3 : Addr) (W : Nat → Int64) (K : Nat → Int32) (B : Nat → Int32) (i : Nat) (r : Int64) (h0 : Heap) (n0 : Nat) (Z0 : n0 ≤ h0.size) (O : own_Obj Z h0 n0 x0 ct a1 a2 a3 W K B) (hj : x1.toInt = (i : Int)) (hi : i < 4) (hv : W i = r) :
    own_Met l Z (⟨"com/example/shardloom/shardloom/Ties", "weight", "(I)J"⟩ : MethodName) prog_81_method_5_code 2 (some .long) { frames := 0, cells := 0, slots := 0, locals := 0 } #[(.ref x0), (.int x1)] h0 (fun v h L => own_Pure (.long r) h0 v h L) := by
  refine own_met pn_7 ?_
  intro p e s m below meth c T0 X0 hx hby hml hown hZ e0 hret hlk hnm
  rw [ef_7 m x0 x1]
  have N0 := Fr.nil n0
  obtain ⟨E, Fc, Fw, Fk, Fl, A1, A2, A3, ⟨ne1, ne2, ne3, ne4, ne5, ne6⟩, go, ga1, ga2, ga3⟩ := O
  show own_Fin _ _ _ _ _ _ _ (T0.setTop (mkF m 0 #[.val (.ref x0), .val (.int x1)] []))
  refine own_of (fun _ kk => XS.aloadN X0.here hx rfl (hb hby d7_0) rfl rfl kk) ?_
  show own_Fin _ _ _ _ _ _ _ (T0.setTop (mkF m 1 #[.val (.ref x0), .val (.int x1)] [(.ref x0)]))
  refine own_getF X0 hx hZ hown (hw _ (List.mem_of_getElem? (i := 10) rfl)) e0 Fw (hb hby d7_1) ?_
  intro T1 X1 e1
  show own_Fin _ _ _ _ _ _ _ (T1.setTop (mkF m 4 #[.val (.ref x0), .val (.int x1)] [(.ref a1)]))
  refine own_of (fun _ kk => XS.iloadN X1.here hx rfl (hb hby d7_4) rfl kk) ?_
  show own_Fin _ _ _ _ _ _ _ (T1.setTop (mkF m 5 #[.val (.ref x0), .val (.int x1)] [(.int x1), (.ref a1)]))
  refine own_laload X1 hx hZ e1 A1 (i := i) hj hi (v := (.long r)) (by rw [hv]) (hb hby d7_5) ?_
  show own_Fin _ _ _ _ _ _ _ (T1.setTop (mkF m 6 #[.val (.ref x0), .val (.int x1)] [(.long r)]))
  exact own_retJ X1 hx hlk e1 hret (hb hby d7_6) (by decide) (by decide) ⟨rfl, rfl, rfl⟩
def own_ac (ct : Int32) (B : Nat → Int32) (k : Nat) : Int32 := if B k = (0 : Int32) then ct + 1 else ct
def own_aw (W : Nat → Int64) (k : Nat) (x : Int64) (j : Nat) : Int64 := if j = k then W k + x else W j
def own_ak (K B : Nat → Int32) (k cn : Nat) (x : Int32) : Nat → Int32 := if B k = (0 : Int32) then (fun j => if j = cn then x else K j) else K
def own_ab (B : Nat → Int32) (k : Nat) : Nat → Int32 := if B k = (0 : Int32) then (fun j => if j = k then (1 : Int32) else B j) else B
set_option maxRecDepth 65536 in
set_option maxHeartbeats 40000000 in
theorem met5 (l : Launch) (Z : State) (a0 : Array Value) (hw : ∀ d ∈ tables_1, d.before a0 Z = true) (x0 : Addr) (x1 : Int32) (x2 : Int64) (ct : Int32) (a1 : Addr) (a2 : Addr) (a3 : Addr) (W : Nat → Int64) (K : Nat → Int32) (B : Nat → Int32) (k : Nat) (cn : Nat) (h0 : Heap) (n0 : Nat) (Z0 : n0 ≤ h0.size) (O : own_Obj Z h0 n0 x0 ct a1 a2 a3 W K B) (hk : x1.toInt = (k : Int)) (hk4 : k < 4) (hc : ct.toInt = (cn : Int)) (hcn : cn < 4) :
    own_Met l Z (⟨"com/example/shardloom/shardloom/Ties", "add", "(IJ)V"⟩ : MethodName) prog_81_method_2_code 4 none { frames := 0, cells := 0, slots := 0, locals := 0 } #[(.ref x0), (.int x1), (.long x2)] h0 (fun v h L => v = none ∧ Fr n0 L ∧ n0 ≤ h.size ∧ own_Obj Z h n0 x0 (own_ac ct B k) a1 a2 a3 (own_aw W k x2) (own_ak K B k cn x1) (own_ab B k)) := by
  refine own_met pn_5 ?_
  intro p e s m below meth c T0 X0 hx hby hml hown hZ e0 hret hlk hnm
  rw [ef_5 m x0 x1 x2]
  have N0 := Fr.nil n0
  obtain ⟨E, Fc, Fw, Fk, Fl, A1, A2, A3, ⟨ne1, ne2, ne3, ne4, ne5, ne6⟩, go, ga1, ga2, ga3⟩ := O
  show own_Fin _ _ _ _ _ _ _ (T0.setTop (mkF m 0 #[.val (.ref x0), .val (.int x1), .val (.long x2), .second] []))
  refine own_of (fun _ kk => XS.aloadN X0.here hx rfl (hb hby d5_0) rfl rfl kk) ?_
  show own_Fin _ _ _ _ _ _ _ (T0.setTop (mkF m 1 #[.val (.ref x0), .val (.int x1), .val (.long x2), .second] [(.ref x0)]))
  refine own_getF X0 hx hZ hown (hw _ (List.mem_of_getElem? (i := 16) rfl)) e0 Fl (hb hby d5_1) ?_
  intro T1 X1 e1
  show own_Fin _ _ _ _ _ _ _ (T1.setTop (mkF m 4 #[.val (.ref x0), .val (.int x1), .val (.long x2), .second] [(.ref a3)]))
  refine own_of (fun _ kk => XS.iloadN X1.here hx rfl (hb hby d5_4) rfl kk) ?_
  show own_Fin _ _ _ _ _ _ _ (T1.setTop (mkF m 5 #[.val (.ref x0), .val (.int x1), .val (.long x2), .second] [(.int x1), (.ref a3)]))
  refine own_zaload X1 hx hZ e1 A3 (i := k) hk hk4 (v := (.int (B k))) rfl (hb hby d5_5) ?_
  show own_Fin _ _ _ _ _ _ _ (T1.setTop (mkF m 6 #[.val (.ref x0), .val (.int x1), .val (.long x2), .second] [(.int (B k))]))
  by_cases c6 : (B k) = (0 : Int32)
  · refine own_of (fun _ kk => XS.ifNo X1.here hx rfl (hb hby d5_6) rfl ((if0 _ _).trans (teq c6).2) kk) ?_
    show own_Fin _ _ _ _ _ _ _ (T1.setTop (mkF m 9 #[.val (.ref x0), .val (.int x1), .val (.long x2), .second] []))
    refine own_of (fun _ kk => XS.aloadN X1.here hx rfl (hb hby d5_9) rfl rfl kk) ?_
    show own_Fin _ _ _ _ _ _ _ (T1.setTop (mkF m 10 #[.val (.ref x0), .val (.int x1), .val (.long x2), .second] [(.ref x0)]))
    refine own_getF X1 hx hZ hown (hw _ (List.mem_of_getElem? (i := 13) rfl)) e1 Fk (hb hby d5_10) ?_
    intro T2 X2 e2
    show own_Fin _ _ _ _ _ _ _ (T2.setTop (mkF m 13 #[.val (.ref x0), .val (.int x1), .val (.long x2), .second] [(.ref a2)]))
    refine own_of (fun _ kk => XS.aloadN X2.here hx rfl (hb hby d5_13) rfl rfl kk) ?_
    show own_Fin _ _ _ _ _ _ _ (T2.setTop (mkF m 14 #[.val (.ref x0), .val (.int x1), .val (.long x2), .second] [(.ref x0), (.ref a2)]))
    refine own_of (fun _ kk => XS.dup X2.here hx rfl (hb hby d5_14) rfl rfl kk) ?_
    show own_Fin _ _ _ _ _ _ _ (T2.setTop (mkF m 15 #[.val (.ref x0), .val (.int x1), .val (.long x2), .second] [(.ref x0), (.ref x0), (.ref a2)]))
    refine own_getF X2 hx hZ hown (hw _ (List.mem_of_getElem? (i := 23) rfl)) e2 Fc (hb hby d5_15) ?_
    intro T3 X3 e3
    show own_Fin _ _ _ _ _ _ _ (T3.setTop (mkF m 18 #[.val (.ref x0), .val (.int x1), .val (.long x2), .second] [(.int ct), (.ref x0), (.ref a2)]))
    refine own_of (fun _ kk => XS.dupX1 X3.here hx rfl (hb hby d5_18) rfl rfl rfl kk) ?_
    show own_Fin _ _ _ _ _ _ _ (T3.setTop (mkF m 19 #[.val (.ref x0), .val (.int x1), .val (.long x2), .second] [(.int ct), (.ref x0), (.int ct), (.ref a2)]))
    refine own_of (fun _ kk => XS.iconst X3.here hx rfl (hb hby d5_19) kk) ?_
    show own_Fin _ _ _ _ _ _ _ (T3.setTop (mkF m 20 #[.val (.ref x0), .val (.int x1), .val (.long x2), .second] [(.int (1 : Int32)), (.int ct), (.ref x0), (.int ct), (.ref a2)]))
    refine own_of (fun _ kk => XS.iadd X3.here hx rfl (hb hby d5_20) rfl kk) ?_
    show own_Fin _ _ _ _ _ _ _ (T3.setTop (mkF m 21 #[.val (.ref x0), .val (.int x1), .val (.long x2), .second] [(.int (ct + (1 : Int32))), (.ref x0), (.int ct), (.ref a2)]))
    refine own_putF X3 hx hZ hown (hw _ (List.mem_of_getElem? (i := 23) rfl)) e3 Fc E (Or.inl (hw _ (List.mem_of_getElem? (i := 24) rfl))) (hw _ (List.mem_of_getElem? (i := 1) rfl)) (ty := .int) (by decide) rfl rfl N0 go (hb hby d5_21) ?_
    intro T4 h4 l4 X4 N4 e4 W4
    have ZW4 : n0 ≤ h4.size := by rw [Wr.size W4]; exact Z0
    replace E := E.wr W4
    replace Fc := Fc.same W4
    replace Fw := Fw.other W4 (Or.inr (slot_ne (Or.inr (hw _ (List.mem_of_getElem? (i := 11) rfl))) (Or.inl (hw _ (List.mem_of_getElem? (i := 24) rfl))) (by decide) (t := (.array .long)) (t' := .int) (by decide) (by decide)))
    replace Fk := Fk.other W4 (Or.inr (slot_ne (Or.inr (hw _ (List.mem_of_getElem? (i := 14) rfl))) (Or.inl (hw _ (List.mem_of_getElem? (i := 24) rfl))) (by decide) (t := (.array .int)) (t' := .int) (by decide) (by decide)))
    replace Fl := Fl.other W4 (Or.inr (slot_ne (Or.inr (hw _ (List.mem_of_getElem? (i := 17) rfl))) (Or.inl (hw _ (List.mem_of_getElem? (i := 24) rfl))) (by decide) (t := (.array .boolean)) (t' := .int) (by decide) (by decide)))
    replace A1 := A1.other W4 (Ne.symm ne1)
    replace A2 := A2.other W4 (Ne.symm ne2)
    replace A3 := A3.other W4 (Ne.symm ne3)
    show own_Fin _ _ _ _ _ _ _ (T4.setTop (mkF m 24 #[.val (.ref x0), .val (.int x1), .val (.long x2), .second] [(.int ct), (.ref a2)]))
    refine own_of (fun _ kk => XS.iloadN X4.here hx rfl (hb hby d5_24) rfl kk) ?_
    show own_Fin _ _ _ _ _ _ _ (T4.setTop (mkF m 25 #[.val (.ref x0), .val (.int x1), .val (.long x2), .second] [(.int x1), (.int ct), (.ref a2)]))
    refine own_iastore X4 hx hZ e4 A2 N4 ga2 (i := cn) hc hcn (hb hby d5_25) ?_
    intro T5 h5 l5 X5 N5 e5 W5 A5
    replace A5 : own_Arf Z h5 a2 .int 4 (fun j => if j = cn then (.int x1) else (fun j => .int (K j)) j) := A5
    have ZW5 : n0 ≤ h5.size := by rw [Wr.size W5]; exact ZW4
    replace E := E.wr W5
    replace Fc := Fc.other W5 (Or.inl ne2)
    replace Fw := Fw.other W5 (Or.inl ne2)
    replace Fk := Fk.other W5 (Or.inl ne2)
    replace Fl := Fl.other W5 (Or.inl ne2)
    replace A1 := A1.other W5 ne4
    replace A3 := A3.other W5 (Ne.symm ne6)
    show own_Fin _ _ _ _ _ _ _ (T5.setTop (mkF m 26 #[.val (.ref x0), .val (.int x1), .val (.long x2), .second] []))
    refine own_of (fun _ kk => XS.aloadN X5.here hx rfl (hb hby d5_26) rfl rfl kk) ?_
    show own_Fin _ _ _ _ _ _ _ (T5.setTop (mkF m 27 #[.val (.ref x0), .val (.int x1), .val (.long x2), .second] [(.ref x0)]))
    refine own_getF X5 hx hZ hown (hw _ (List.mem_of_getElem? (i := 16) rfl)) e5 Fl (hb hby d5_27) ?_
    intro T6 X6 e6
    show own_Fin _ _ _ _ _ _ _ (T6.setTop (mkF m 30 #[.val (.ref x0), .val (.int x1), .val (.long x2), .second] [(.ref a3)]))
    refine own_of (fun _ kk => XS.iloadN X6.here hx rfl (hb hby d5_30) rfl kk) ?_
    show own_Fin _ _ _ _ _ _ _ (T6.setTop (mkF m 31 #[.val (.ref x0), .val (.int x1), .val (.long x2), .second] [(.int x1), (.ref a3)]))
    refine own_of (fun _ kk => XS.iconst X6.here hx rfl (hb hby d5_31) kk) ?_
    show own_Fin _ _ _ _ _ _ _ (T6.setTop (mkF m 32 #[.val (.ref x0), .val (.int x1), .val (.long x2), .second] [(.int (1 : Int32)), (.int x1), (.ref a3)]))
    refine own_zastore X6 hx hZ e6 A3 N5 ga3 (i := k) hk hk4 (hb hby d5_32) ?_
    intro T7 h7 l7 X7 N7 e7 W7 A7
    replace A7 : own_Arf Z h7 a3 .boolean 4 (fun j => if j = k then (.int ((1 : Int32) &&& 1)) else (fun j => .int (B j)) j) := A7
    have ZW7 : n0 ≤ h7.size := by rw [Wr.size W7]; exact ZW5
    replace E := E.wr W7
    replace Fc := Fc.other W7 (Or.inl ne3)
    replace Fw := Fw.other W7 (Or.inl ne3)
    replace Fk := Fk.other W7 (Or.inl ne3)
    replace Fl := Fl.other W7 (Or.inl ne3)
    replace A1 := A1.other W7 ne5
    replace A5 := A5.other W7 ne6
    show own_Fin _ _ _ _ _ _ _ (T7.setTop (mkF m 33 #[.val (.ref x0), .val (.int x1), .val (.long x2), .second] []))
    refine own_of (fun _ kk => XS.aloadN X7.here hx rfl (hb hby d5_33) rfl rfl kk) ?_
    show own_Fin _ _ _ _ _ _ _ (T7.setTop (mkF m 34 #[.val (.ref x0), .val (.int x1), .val (.long x2), .second] [(.ref x0)]))
    refine own_getF X7 hx hZ hown (hw _ (List.mem_of_getElem? (i := 10) rfl)) e7 Fw (hb hby d5_34) ?_
    intro T8 X8 e8
    show own_Fin _ _ _ _ _ _ _ (T8.setTop (mkF m 37 #[.val (.ref x0), .val (.int x1), .val (.long x2), .second] [(.ref a1)]))
    refine own_of (fun _ kk => XS.iloadN X8.here hx rfl (hb hby d5_37) rfl kk) ?_
    show own_Fin _ _ _ _ _ _ _ (T8.setTop (mkF m 38 #[.val (.ref x0), .val (.int x1), .val (.long x2), .second] [(.int x1), (.ref a1)]))
    refine own_of (fun _ kk => Jvm.Free.XT.dup2 X8.here hx rfl (hb hby d5_38) rfl rfl rfl kk) ?_
    show own_Fin _ _ _ _ _ _ _ (T8.setTop (mkF m 39 #[.val (.ref x0), .val (.int x1), .val (.long x2), .second] [(.int x1), (.ref a1), (.int x1), (.ref a1)]))
    refine own_laload X8 hx hZ e8 A1 (i := k) hk hk4 (v := (.long (W k))) rfl (hb hby d5_39) ?_
    show own_Fin _ _ _ _ _ _ _ (T8.setTop (mkF m 40 #[.val (.ref x0), .val (.int x1), .val (.long x2), .second] [(.long (W k)), (.int x1), (.ref a1)]))
    refine own_of (fun _ kk => XS.lloadN X8.here hx rfl (hb hby d5_40) rfl kk) ?_
    show own_Fin _ _ _ _ _ _ _ (T8.setTop (mkF m 41 #[.val (.ref x0), .val (.int x1), .val (.long x2), .second] [(.long x2), (.long (W k)), (.int x1), (.ref a1)]))
    refine own_of (fun _ kk => XS.ladd X8.here hx rfl (hb hby d5_41) rfl kk) ?_
    show own_Fin _ _ _ _ _ _ _ (T8.setTop (mkF m 42 #[.val (.ref x0), .val (.int x1), .val (.long x2), .second] [(.long ((W k) + x2)), (.int x1), (.ref a1)]))
    refine own_lastore X8 hx hZ e8 A1 N7 ga1 (i := k) hk hk4 (hb hby d5_42) ?_
    intro T9 h9 l9 X9 N9 e9 W9 A9
    replace A9 : own_Arf Z h9 a1 .long 4 (fun j => if j = k then (.long ((W k) + x2)) else (fun j => .long (W j)) j) := A9
    have ZW9 : n0 ≤ h9.size := by rw [Wr.size W9]; exact ZW7
    replace E := E.wr W9
    replace Fc := Fc.other W9 (Or.inl ne1)
    replace Fw := Fw.other W9 (Or.inl ne1)
    replace Fk := Fk.other W9 (Or.inl ne1)
    replace Fl := Fl.other W9 (Or.inl ne1)
    replace A5 := A5.other W9 (Ne.symm ne4)
    replace A7 := A7.other W9 (Ne.symm ne5)
    show own_Fin _ _ _ _ _ _ _ (T9.setTop (mkF m 43 #[.val (.ref x0), .val (.int x1), .val (.long x2), .second] []))
    exact own_retV X9 hx hlk e9 hret (hb hby d5_43) (by decide) (by decide) ⟨rfl, N9, ZW9, by simp only [own_ac, own_aw, own_ak, own_ab, if_pos c6]; exact ⟨E, Fc, Fw, Fk, Fl, (A9.congr fun j _ => by dsimp only [own_aw]; split <;> rfl), (A5.congr fun j _ => by dsimp only; split <;> rfl), (A7.congr fun j _ => by dsimp only; split <;> rfl), ⟨ne1, ne2, ne3, ne4, ne5, ne6⟩, go, ga1, ga2, ga3⟩⟩
  · refine own_of (fun _ kk => XS.ifYes X1.here hx rfl (pc0 := 6) (pc' := 33) rfl (hb hby d5_6) rfl ((if0 _ _).trans (feq c6).2) (by decide) (by decide) kk) ?_
    show own_Fin _ _ _ _ _ _ _ (T1.setTop (mkF m 33 #[.val (.ref x0), .val (.int x1), .val (.long x2), .second] []))
    refine own_of (fun _ kk => XS.aloadN X1.here hx rfl (hb hby d5_33) rfl rfl kk) ?_
    show own_Fin _ _ _ _ _ _ _ (T1.setTop (mkF m 34 #[.val (.ref x0), .val (.int x1), .val (.long x2), .second] [(.ref x0)]))
    refine own_getF X1 hx hZ hown (hw _ (List.mem_of_getElem? (i := 10) rfl)) e1 Fw (hb hby d5_34) ?_
    intro T10 X10 e10
    show own_Fin _ _ _ _ _ _ _ (T10.setTop (mkF m 37 #[.val (.ref x0), .val (.int x1), .val (.long x2), .second] [(.ref a1)]))
    refine own_of (fun _ kk => XS.iloadN X10.here hx rfl (hb hby d5_37) rfl kk) ?_
    show own_Fin _ _ _ _ _ _ _ (T10.setTop (mkF m 38 #[.val (.ref x0), .val (.int x1), .val (.long x2), .second] [(.int x1), (.ref a1)]))
    refine own_of (fun _ kk => Jvm.Free.XT.dup2 X10.here hx rfl (hb hby d5_38) rfl rfl rfl kk) ?_
    show own_Fin _ _ _ _ _ _ _ (T10.setTop (mkF m 39 #[.val (.ref x0), .val (.int x1), .val (.long x2), .second] [(.int x1), (.ref a1), (.int x1), (.ref a1)]))
    refine own_laload X10 hx hZ e10 A1 (i := k) hk hk4 (v := (.long (W k))) rfl (hb hby d5_39) ?_
    show own_Fin _ _ _ _ _ _ _ (T10.setTop (mkF m 40 #[.val (.ref x0), .val (.int x1), .val (.long x2), .second] [(.long (W k)), (.int x1), (.ref a1)]))
    refine own_of (fun _ kk => XS.lloadN X10.here hx rfl (hb hby d5_40) rfl kk) ?_
    show own_Fin _ _ _ _ _ _ _ (T10.setTop (mkF m 41 #[.val (.ref x0), .val (.int x1), .val (.long x2), .second] [(.long x2), (.long (W k)), (.int x1), (.ref a1)]))
    refine own_of (fun _ kk => XS.ladd X10.here hx rfl (hb hby d5_41) rfl kk) ?_
    show own_Fin _ _ _ _ _ _ _ (T10.setTop (mkF m 42 #[.val (.ref x0), .val (.int x1), .val (.long x2), .second] [(.long ((W k) + x2)), (.int x1), (.ref a1)]))
    refine own_lastore X10 hx hZ e10 A1 N0 ga1 (i := k) hk hk4 (hb hby d5_42) ?_
    intro T11 h11 l11 X11 N11 e11 W11 A11
    replace A11 : own_Arf Z h11 a1 .long 4 (fun j => if j = k then (.long ((W k) + x2)) else (fun j => .long (W j)) j) := A11
    have ZW11 : n0 ≤ h11.size := by rw [Wr.size W11]; exact Z0
    replace E := E.wr W11
    replace Fc := Fc.other W11 (Or.inl ne1)
    replace Fw := Fw.other W11 (Or.inl ne1)
    replace Fk := Fk.other W11 (Or.inl ne1)
    replace Fl := Fl.other W11 (Or.inl ne1)
    replace A2 := A2.other W11 (Ne.symm ne4)
    replace A3 := A3.other W11 (Ne.symm ne5)
    show own_Fin _ _ _ _ _ _ _ (T11.setTop (mkF m 43 #[.val (.ref x0), .val (.int x1), .val (.long x2), .second] []))
    exact own_retV X11 hx hlk e11 hret (hb hby d5_43) (by decide) (by decide) ⟨rfl, N11, ZW11, by simp only [own_ac, own_aw, own_ak, own_ab, if_neg c6]; exact ⟨E, Fc, Fw, Fk, Fl, (A11.congr fun j _ => by dsimp only [own_aw]; split <;> rfl), A2, A3, ⟨ne1, ne2, ne3, ne4, ne5, ne6⟩, go, ga1, ga2, ga3⟩⟩
def own_hit (ks : Nat → Nat) (i j : Nat) : Prop := ∃ t, t < i ∧ ks t = j
theorem own_hit_s (ks : Nat → Nat) (i j : Nat) : own_hit ks (i + 1) j ↔ j = ks i ∨ own_hit ks i j := by
  constructor
  · rintro ⟨t, h1, h2⟩
    by_cases e : t = i
    · subst e; exact Or.inl h2.symm
    · exact Or.inr ⟨t, by omega, h2⟩
  · rintro (h | ⟨t, h1, h2⟩)
    · exact ⟨i, by omega, h.symm⟩
    · exact ⟨t, by omega, h2⟩
def own_hitb (ks : Nat → Nat) : Nat → Nat → Bool
  | 0, _ => false
  | i + 1, j => decide (j = ks i) || own_hitb ks i j
theorem own_hitb_iff (ks : Nat → Nat) (j : Nat) : ∀ i, own_hitb ks i j = true ↔ own_hit ks i j
  | 0 => ⟨fun h => absurd (show false = true from h) (by decide), fun ⟨t, h, _⟩ => absurd h (Nat.not_lt_zero t)⟩
  | i + 1 => by
    rw [own_hit_s, ← own_hitb_iff ks j i]
    show (decide (j = ks i) || own_hitb ks i j) = true ↔ _
    rw [Bool.or_eq_true, decide_eq_true_eq]
def own_cw (ks : Nat → Nat) (W : Nat → Int64) (i j : Nat) : Int64 := if own_hitb ks i j = true then 0 else W j
def own_cb (ks : Nat → Nat) (B : Nat → Int32) (i j : Nat) : Int32 := if own_hitb ks i j = true then 0 else B j
theorem own_cw0 (ks : Nat → Nat) (W : Nat → Int64) (j : Nat) : W j = own_cw ks W 0 j := rfl
theorem own_cb0 (ks : Nat → Nat) (B : Nat → Int32) (j : Nat) : B j = own_cb ks B 0 j := rfl
theorem own_cws (ks : Nat → Nat) (W : Nat → Int64) (i j : Nat) : (if j = (ks i) then (Value.long (0 : Int64)) else (fun j => Value.long (own_cw ks W i j)) j) = .long (own_cw ks W (i + 1) j) := by
  show (if j = (ks i) then (Value.long (0 : Int64)) else Value.long (if own_hitb ks i j = true then 0 else W j)) = .long (if (decide (j = ks i) || own_hitb ks i j) = true then 0 else W j)
  by_cases h : j = ks i
  · rw [if_pos h, if_pos (by simp [h])]
  · rw [if_neg h]; simp [h]
theorem own_cbs (ks : Nat → Nat) (B : Nat → Int32) (i j : Nat) : (if j = (ks i) then (Value.int ((0 : Int32) &&& 1)) else (fun j => Value.int (own_cb ks B i j)) j) = .int (own_cb ks B (i + 1) j) := by
  show (if j = (ks i) then (Value.int ((0 : Int32) &&& 1)) else Value.int (if own_hitb ks i j = true then 0 else B j)) = .int (if (decide (j = ks i) || own_hitb ks i j) = true then 0 else B j)
  by_cases h : j = ks i
  · rw [if_pos h, if_pos (by simp [h])]; rfl
  · rw [if_neg h]; simp [h]
theorem own_p1 {p : Int32} {k : Nat} (hp : p.toInt = (k : Int)) (h : k < 100) : (p + 1).toInt = ((k + 1 : Nat) : Int) := by
  have h1 := c_iadd p 1
  have h2 := rng32 (p + 1)
  have k : (1 : Int32).toInt = 1 := by decide
  omega
set_option maxRecDepth 65536 in
set_option maxHeartbeats 40000000 in
theorem own_loop (l : Launch) (Z : State) (a0 : Array Value) (hw : ∀ d ∈ tables_1, d.before a0 Z = true) (x0 : Addr) (ct : Int32) (a1 : Addr) (a2 : Addr) (a3 : Addr) (W : Nat → Int64) (K : Nat → Int32) (B : Nat → Int32) (ks : Nat → Nat) (cn : Nat) (n0 : Nat) {p : Program} {e : Env} {R : Room} {s : State} {m : MethodId} {args : Array Value} {below : List Frame} {meth : Method} {c : Code} (hx : p.tables.exec = Jvm.exec) (hby : c.code = prog_81_method_6_code) (hml : c.maxLocals = 2) (hown : s.vm.findClass "com/example/shardloom/shardloom/Ties" = some m.cls) (hZ : Z.Warmed39 s.vm) (hret : meth.sig.returnType = none) (hlk : meth.locks = false) (hc : ct.toInt = (cn : Int)) (hcn : cn ≤ 4) (hks : ∀ t, t < cn → (K t).toInt = (ks t : Int) ∧ ks t < 4) (ne1 : x0 ≠ a1) (ne2 : x0 ≠ a2) (ne3 : x0 ≠ a3) (ne4 : a1 ≠ a2) (ne5 : a1 ≠ a3) (ne6 : a2 ≠ a3) (go : n0 ≤ x0) (ga1 : n0 ≤ a1) (ga2 : n0 ≤ a2) (ga3 : n0 ≤ a3) :
    ∀ (d : Nat) (i : Nat) (p1 : Int32) (T0 : State) (locs : List Loc) (h0 : Heap), Stand p l e R s m args below meth c T0 locs 0 0 → Fr n0 locs → n0 ≤ h0.size → T0.heap = h0 → (i + d = cn) → (p1.toInt = (i : Int)) → (Exa Z h0 x0 "com/example/shardloom/shardloom/Ties") → (Fld Z h0 x0 "com/example/shardloom/shardloom/Ties" "count" "I" (.int ct)) → (Fld Z h0 x0 "com/example/shardloom/shardloom/Ties" "weight" "[J" (.ref a1)) → (Fld Z h0 x0 "com/example/shardloom/shardloom/Ties" "keys" "[I" (.ref a2)) → (Fld Z h0 x0 "com/example/shardloom/shardloom/Ties" "listed" "[Z" (.ref a3)) → (own_Arf Z h0 a1 .long 4 (fun j => .long (own_cw ks W i j))) → (own_Arf Z h0 a2 .int 4 (fun j => .int (K j))) → (own_Arf Z h0 a3 .boolean 4 (fun j => .int (own_cb ks B i j))) → own_Fin p e below s 0 0 (fun v h L => v = none ∧ Fr n0 L ∧ n0 ≤ h.size ∧ own_Obj Z h n0 x0 0 a1 a2 a3 (own_cw ks W cn) K (own_cb ks B cn)) (T0.setTop (mkF m 2 #[.val (.ref x0), .val (.int p1)] [])) := by
  intro d
  induction d with
  | zero =>
    intro i p1 T0 locs h0 X0 N0 Z0 e0 hi hp E Fc Fw Fk Fl A1 A2 A3
    obtain rfl : i = cn := by omega
    show own_Fin _ _ _ _ _ _ _ (T0.setTop (mkF m 2 #[.val (.ref x0), .val (.int p1)] []))
    refine own_of (fun _ kk => XS.iloadN X0.here hx rfl (hb hby d3_2) rfl kk) ?_
    show own_Fin _ _ _ _ _ _ _ (T0.setTop (mkF m 3 #[.val (.ref x0), .val (.int p1)] [(.int p1)]))
    refine own_of (fun _ kk => XS.aloadN X0.here hx rfl (hb hby d3_3) rfl rfl kk) ?_
    show own_Fin _ _ _ _ _ _ _ (T0.setTop (mkF m 4 #[.val (.ref x0), .val (.int p1)] [(.ref x0), (.int p1)]))
    refine own_getF X0 hx hZ hown (hw _ (List.mem_of_getElem? (i := 23) rfl)) e0 Fc (hb hby d3_4) ?_
    intro T1 X1 e1
    show own_Fin _ _ _ _ _ _ _ (T1.setTop (mkF m 7 #[.val (.ref x0), .val (.int p1)] [(.int ct), (.int p1)]))
    refine own_of (fun _ kk => XS.icmpYes X1.here hx rfl (pc0 := 7) (pc' := 40) rfl (hb hby d3_7) rfl (flt (by rw [Int32.lt_iff_toInt_lt]; omega)).2.1 (by decide) (by decide) kk) ?_
    show own_Fin _ _ _ _ _ _ _ (T1.setTop (mkF m 40 #[.val (.ref x0), .val (.int p1)] []))
    refine own_of (fun _ kk => XS.aloadN X1.here hx rfl (hb hby d3_40) rfl rfl kk) ?_
    show own_Fin _ _ _ _ _ _ _ (T1.setTop (mkF m 41 #[.val (.ref x0), .val (.int p1)] [(.ref x0)]))
    refine own_of (fun _ kk => XS.iconst X1.here hx rfl (hb hby d3_41) kk) ?_
    show own_Fin _ _ _ _ _ _ _ (T1.setTop (mkF m 42 #[.val (.ref x0), .val (.int p1)] [(.int (0 : Int32)), (.ref x0)]))
    refine own_putF X1 hx hZ hown (hw _ (List.mem_of_getElem? (i := 23) rfl)) e1 Fc E (Or.inl (hw _ (List.mem_of_getElem? (i := 24) rfl))) (hw _ (List.mem_of_getElem? (i := 1) rfl)) (ty := .int) (by decide) rfl rfl N0 go (hb hby d3_42) ?_
    intro T2 h2 l2 X2 N2 e2 W2
    have ZW2 : n0 ≤ h2.size := by rw [Wr.size W2]; exact Z0
    replace E := E.wr W2
    replace Fc := Fc.same W2
    replace Fw := Fw.other W2 (Or.inr (slot_ne (Or.inr (hw _ (List.mem_of_getElem? (i := 11) rfl))) (Or.inl (hw _ (List.mem_of_getElem? (i := 24) rfl))) (by decide) (t := (.array .long)) (t' := .int) (by decide) (by decide)))
    replace Fk := Fk.other W2 (Or.inr (slot_ne (Or.inr (hw _ (List.mem_of_getElem? (i := 14) rfl))) (Or.inl (hw _ (List.mem_of_getElem? (i := 24) rfl))) (by decide) (t := (.array .int)) (t' := .int) (by decide) (by decide)))
    replace Fl := Fl.other W2 (Or.inr (slot_ne (Or.inr (hw _ (List.mem_of_getElem? (i := 17) rfl))) (Or.inl (hw _ (List.mem_of_getElem? (i := 24) rfl))) (by decide) (t := (.array .boolean)) (t' := .int) (by decide) (by decide)))
    replace A1 := A1.other W2 (Ne.symm ne1)
    replace A2 := A2.other W2 (Ne.symm ne2)
    replace A3 := A3.other W2 (Ne.symm ne3)
    show own_Fin _ _ _ _ _ _ _ (T2.setTop (mkF m 45 #[.val (.ref x0), .val (.int p1)] []))
    exact own_retV X2 hx hlk e2 hret (hb hby d3_45) (by decide) (by decide) ⟨rfl, N2, ZW2, E, Fc, Fw, Fk, Fl, A1, A2, A3, ⟨ne1, ne2, ne3, ne4, ne5, ne6⟩, go, ga1, ga2, ga3⟩
  | succ d ih =>
    intro i p1 T0 locs h0 X0 N0 Z0 e0 hi hp E Fc Fw Fk Fl A1 A2 A3
    show own_Fin _ _ _ _ _ _ _ (T0.setTop (mkF m 2 #[.val (.ref x0), .val (.int p1)] []))
    refine own_of (fun _ kk => XS.iloadN X0.here hx rfl (hb hby d3_2) rfl kk) ?_
    show own_Fin _ _ _ _ _ _ _ (T0.setTop (mkF m 3 #[.val (.ref x0), .val (.int p1)] [(.int p1)]))
    refine own_of (fun _ kk => XS.aloadN X0.here hx rfl (hb hby d3_3) rfl rfl kk) ?_
    show own_Fin _ _ _ _ _ _ _ (T0.setTop (mkF m 4 #[.val (.ref x0), .val (.int p1)] [(.ref x0), (.int p1)]))
    refine own_getF X0 hx hZ hown (hw _ (List.mem_of_getElem? (i := 23) rfl)) e0 Fc (hb hby d3_4) ?_
    intro T1 X1 e1
    show own_Fin _ _ _ _ _ _ _ (T1.setTop (mkF m 7 #[.val (.ref x0), .val (.int p1)] [(.int ct), (.int p1)]))
    refine own_of (fun _ kk => XS.icmpNo X1.here hx rfl (hb hby d3_7) rfl (tlt (by rw [Int32.lt_iff_toInt_lt]; omega)).2.1 kk) ?_
    show own_Fin _ _ _ _ _ _ _ (T1.setTop (mkF m 10 #[.val (.ref x0), .val (.int p1)] []))
    refine own_of (fun _ kk => XS.aloadN X1.here hx rfl (hb hby d3_10) rfl rfl kk) ?_
    show own_Fin _ _ _ _ _ _ _ (T1.setTop (mkF m 11 #[.val (.ref x0), .val (.int p1)] [(.ref x0)]))
    refine own_getF X1 hx hZ hown (hw _ (List.mem_of_getElem? (i := 10) rfl)) e1 Fw (hb hby d3_11) ?_
    intro T2 X2 e2
    show own_Fin _ _ _ _ _ _ _ (T2.setTop (mkF m 14 #[.val (.ref x0), .val (.int p1)] [(.ref a1)]))
    refine own_of (fun _ kk => XS.aloadN X2.here hx rfl (hb hby d3_14) rfl rfl kk) ?_
    show own_Fin _ _ _ _ _ _ _ (T2.setTop (mkF m 15 #[.val (.ref x0), .val (.int p1)] [(.ref x0), (.ref a1)]))
    refine own_getF X2 hx hZ hown (hw _ (List.mem_of_getElem? (i := 13) rfl)) e2 Fk (hb hby d3_15) ?_
    intro T3 X3 e3
    show own_Fin _ _ _ _ _ _ _ (T3.setTop (mkF m 18 #[.val (.ref x0), .val (.int p1)] [(.ref a2), (.ref a1)]))
    refine own_of (fun _ kk => XS.iloadN X3.here hx rfl (hb hby d3_18) rfl kk) ?_
    show own_Fin _ _ _ _ _ _ _ (T3.setTop (mkF m 19 #[.val (.ref x0), .val (.int p1)] [(.int p1), (.ref a2), (.ref a1)]))
    refine own_iaload X3 hx hZ e3 A2 (i := i) hp (by omega) (v := (.int (K i))) rfl (hb hby d3_19) ?_
    show own_Fin _ _ _ _ _ _ _ (T3.setTop (mkF m 20 #[.val (.ref x0), .val (.int p1)] [(.int (K i)), (.ref a1)]))
    refine own_of (fun _ kk => XS.lconst X3.here hx rfl (hb hby d3_20) kk) ?_
    show own_Fin _ _ _ _ _ _ _ (T3.setTop (mkF m 21 #[.val (.ref x0), .val (.int p1)] [(.long (0 : Int64)), (.int (K i)), (.ref a1)]))
    refine own_lastore X3 hx hZ e3 A1 N0 ga1 (i := (ks i)) (hks i (by omega)).1 (hks i (by omega)).2 (hb hby d3_21) ?_
    intro T4 h4 l4 X4 N4 e4 W4 A4
    replace A4 : own_Arf Z h4 a1 .long 4 (fun j => if j = (ks i) then (.long (0 : Int64)) else (fun j => .long (own_cw ks W i j)) j) := A4
    have ZW4 : n0 ≤ h4.size := by rw [Wr.size W4]; exact Z0
    replace E := E.wr W4
    replace Fc := Fc.other W4 (Or.inl ne1)
    replace Fw := Fw.other W4 (Or.inl ne1)
    replace Fk := Fk.other W4 (Or.inl ne1)
    replace Fl := Fl.other W4 (Or.inl ne1)
    replace A2 := A2.other W4 (Ne.symm ne4)
    replace A3 := A3.other W4 (Ne.symm ne5)
    show own_Fin _ _ _ _ _ _ _ (T4.setTop (mkF m 22 #[.val (.ref x0), .val (.int p1)] []))
    refine own_of (fun _ kk => XS.aloadN X4.here hx rfl (hb hby d3_22) rfl rfl kk) ?_
    show own_Fin _ _ _ _ _ _ _ (T4.setTop (mkF m 23 #[.val (.ref x0), .val (.int p1)] [(.ref x0)]))
    refine own_getF X4 hx hZ hown (hw _ (List.mem_of_getElem? (i := 16) rfl)) e4 Fl (hb hby d3_23) ?_
    intro T5 X5 e5
    show own_Fin _ _ _ _ _ _ _ (T5.setTop (mkF m 26 #[.val (.ref x0), .val (.int p1)] [(.ref a3)]))
    refine own_of (fun _ kk => XS.aloadN X5.here hx rfl (hb hby d3_26) rfl rfl kk) ?_
    show own_Fin _ _ _ _ _ _ _ (T5.setTop (mkF m 27 #[.val (.ref x0), .val (.int p1)] [(.ref x0), (.ref a3)]))
    refine own_getF X5 hx hZ hown (hw _ (List.mem_of_getElem? (i := 13) rfl)) e5 Fk (hb hby d3_27) ?_
    intro T6 X6 e6
    show own_Fin _ _ _ _ _ _ _ (T6.setTop (mkF m 30 #[.val (.ref x0), .val (.int p1)] [(.ref a2), (.ref a3)]))
    refine own_of (fun _ kk => XS.iloadN X6.here hx rfl (hb hby d3_30) rfl kk) ?_
    show own_Fin _ _ _ _ _ _ _ (T6.setTop (mkF m 31 #[.val (.ref x0), .val (.int p1)] [(.int p1), (.ref a2), (.ref a3)]))
    refine own_iaload X6 hx hZ e6 A2 (i := i) hp (by omega) (v := (.int (K i))) rfl (hb hby d3_31) ?_
    show own_Fin _ _ _ _ _ _ _ (T6.setTop (mkF m 32 #[.val (.ref x0), .val (.int p1)] [(.int (K i)), (.ref a3)]))
    refine own_of (fun _ kk => XS.iconst X6.here hx rfl (hb hby d3_32) kk) ?_
    show own_Fin _ _ _ _ _ _ _ (T6.setTop (mkF m 33 #[.val (.ref x0), .val (.int p1)] [(.int (0 : Int32)), (.int (K i)), (.ref a3)]))
    refine own_zastore X6 hx hZ e6 A3 N4 ga3 (i := (ks i)) (hks i (by omega)).1 (hks i (by omega)).2 (hb hby d3_33) ?_
    intro T7 h7 l7 X7 N7 e7 W7 A7
    replace A7 : own_Arf Z h7 a3 .boolean 4 (fun j => if j = (ks i) then (.int ((0 : Int32) &&& 1)) else (fun j => .int (own_cb ks B i j)) j) := A7
    have ZW7 : n0 ≤ h7.size := by rw [Wr.size W7]; exact ZW4
    replace E := E.wr W7
    replace Fc := Fc.other W7 (Or.inl ne3)
    replace Fw := Fw.other W7 (Or.inl ne3)
    replace Fk := Fk.other W7 (Or.inl ne3)
    replace Fl := Fl.other W7 (Or.inl ne3)
    replace A4 := A4.other W7 ne5
    replace A2 := A2.other W7 ne6
    show own_Fin _ _ _ _ _ _ _ (T7.setTop (mkF m 34 #[.val (.ref x0), .val (.int p1)] []))
    refine own_of (fun _ kk => XS.iinc X7.here hx rfl (hb hby d3_34) rfl (l' := #[.val (.ref x0), .val (.int (p1 + (1 : Int32)))]) rfl kk) ?_
    show own_Fin _ _ _ _ _ _ _ (T7.setTop (mkF m 37 #[.val (.ref x0), .val (.int (p1 + (1 : Int32)))] []))
    refine own_of (fun _ kk => XS.goto X7.here hx rfl (pc0 := 37) (pc' := 2) rfl (hb hby d3_37) (by decide) (by decide) kk) ?_
    show own_Fin _ _ _ _ _ _ _ (T7.setTop (mkF m 2 #[.val (.ref x0), .val (.int (p1 + (1 : Int32)))] []))
    exact ih (i + 1) (p1 + 1) T7 _ h7 X7 N7 ZW7 e7 (by omega) (own_p1 hp (by omega)) E Fc Fw Fk Fl (A4.congr fun j _ => own_cws ks W i j) A2 (A7.congr fun j _ => own_cbs ks B i j)
set_option maxRecDepth 65536 in
set_option maxHeartbeats 40000000 in
theorem met3 (l : Launch) (Z : State) (a0 : Array Value) (hw : ∀ d ∈ tables_1, d.before a0 Z = true) (x0 : Addr) (ct : Int32) (a1 : Addr) (a2 : Addr) (a3 : Addr) (W : Nat → Int64) (K : Nat → Int32) (B : Nat → Int32) (ks : Nat → Nat) (cn : Nat) (h0 : Heap) (n0 : Nat) (Z0 : n0 ≤ h0.size) (O : own_Obj Z h0 n0 x0 ct a1 a2 a3 W K B) (hc : ct.toInt = (cn : Int)) (hcn : cn ≤ 4) (hks : ∀ t, t < cn → (K t).toInt = (ks t : Int) ∧ ks t < 4) :
    own_Met l Z (⟨"com/example/shardloom/shardloom/Ties", "clear", "()V"⟩ : MethodName) prog_81_method_6_code 2 none { frames := 0, cells := 0, slots := 0, locals := 0 } #[(.ref x0)] h0 (fun v h L => v = none ∧ Fr n0 L ∧ n0 ≤ h.size ∧ own_Obj Z h n0 x0 0 a1 a2 a3 (own_cw ks W cn) K (own_cb ks B cn)) := by
  refine own_met pn_3 ?_
  intro p e s m below meth c T0 X0 hx hby hml hown hZ e0 hret hlk hnm
  rw [ef_3 m x0]
  have N0 := Fr.nil n0
  obtain ⟨E, Fc, Fw, Fk, Fl, A1, A2, A3, ⟨ne1, ne2, ne3, ne4, ne5, ne6⟩, go, ga1, ga2, ga3⟩ := O
  show own_Fin _ _ _ _ _ _ _ (T0.setTop (mkF m 0 #[.val (.ref x0), .unset] []))
  refine own_of (fun _ kk => XS.iconst X0.here hx rfl (hb hby d3_0) kk) ?_
  show own_Fin _ _ _ _ _ _ _ (T0.setTop (mkF m 1 #[.val (.ref x0), .unset] [(.int (0 : Int32))]))
  refine own_of (fun _ kk => XS.istoreN X0.here hx rfl (hb hby d3_1) rfl (l' := #[.val (.ref x0), .val (.int (0 : Int32))]) rfl kk) ?_
  show own_Fin _ _ _ _ _ _ _ (T0.setTop (mkF m 2 #[.val (.ref x0), .val (.int (0 : Int32))] []))
  exact own_loop l Z a0 hw x0 ct a1 a2 a3 W K B ks cn n0 hx hby hml hown hZ hret hlk hc hcn hks ne1 ne2 ne3 ne4 ne5 ne6 go ga1 ga2 ga3 cn 0 0 T0 _ h0 X0 N0 Z0 e0 (by omega) (by decide) E Fc Fw Fk Fl (A1.congr fun j _ => congrArg Value.long (own_cw0 ks W j)) A2 (A3.congr fun j _ => congrArg Value.int (own_cb0 ks B j))
def own_St (Z : State) (h : Heap) (n0 : Nat) (o : Addr) (m : Nat) : Prop :=
  ∃ (ct : Int32) (a1 a2 a3 : Addr) (W : Nat → Int64) (K B : Nat → Int32) (ks : Nat → Nat) (cn : Nat), own_Obj Z h n0 o ct a1 a2 a3 W K B ∧ ct.toInt = (cn : Int) ∧ cn ≤ m ∧ (∀ t, t < cn → (K t).toInt = (ks t : Int) ∧ ks t < 4) ∧ (∀ j, j < 4 → B j = 0 ∨ own_hit ks cn j) ∧ (∀ j, j < 4 → W j = 0 ∨ own_hit ks cn j)
theorem own_St.mono {Z : State} {h : Heap} {n0 : Nat} {o : Addr} {m m' : Nat} (S : own_St Z h n0 o m) (q : m ≤ m') : own_St Z h n0 o m' := by
  obtain ⟨ct, a1, a2, a3, W, K, B, ks, cn, h1, h2, h3, h4⟩ := S
  exact ⟨ct, a1, a2, a3, W, K, B, ks, cn, h1, h2, Nat.le_trans h3 q, h4⟩
theorem own_St.add {Z : State} {h : Heap} {n0 : Nat} {o : Addr} {m : Nat} {ct : Int32} {a1 a2 a3 : Addr} {W : Nat → Int64} {K B : Nat → Int32} {ks : Nat → Nat} {cn k : Nat} {x1 : Int32} {x2 : Int64} (O : own_Obj Z h n0 o (own_ac ct B k) a1 a2 a3 (own_aw W k x2) (own_ak K B k cn x1) (own_ab B k))
    (h2 : ct.toInt = (cn : Int)) (h3 : cn ≤ m) (h4 : ∀ t, t < cn → (K t).toInt = (ks t : Int) ∧ ks t < 4) (h5 : ∀ j, j < 4 → B j = 0 ∨ own_hit ks cn j) (h6 : ∀ j, j < 4 → W j = 0 ∨ own_hit ks cn j) (hk : x1.toInt = (k : Int)) (hk4 : k < 4) (hm : m < 4) : own_St Z h n0 o (m + 1) := by
  by_cases c : B k = 0
  · refine ⟨_, a1, a2, a3, _, _, _, (fun t => if t = cn then k else ks t), cn + 1, O, ?_, by omega, ?_, ?_, ?_⟩
    · unfold own_ac; rw [if_pos c]; exact own_p1 h2 (by omega)
    · intro t ht
      unfold own_ak; rw [if_pos c]
      show (if t = cn then x1 else K t).toInt = ((if t = cn then k else ks t : Nat) : Int) ∧ (if t = cn then k else ks t) < 4
      by_cases e : t = cn
      · rw [if_pos e, if_pos e]; exact ⟨hk, hk4⟩
      · rw [if_neg e, if_neg e]; exact h4 t (by omega)
    · intro j hj
      unfold own_ab; rw [if_pos c]
      show (if j = k then (1 : Int32) else B j) = 0 ∨ _
      by_cases e : j = k
      · right; exact ⟨cn, by omega, by dsimp only; rw [if_pos rfl]; exact e.symm⟩
      · rw [if_neg e]
        rcases h5 j hj with q | ⟨t, q1, q2⟩
        · exact Or.inl q
        · right; exact ⟨t, by omega, by dsimp only; rw [if_neg (by omega)]; exact q2⟩
    · intro j hj
      unfold own_aw
      by_cases e : j = k
      · right; exact ⟨cn, by omega, by dsimp only; rw [if_pos rfl]; exact e.symm⟩
      · rw [if_neg e]
        rcases h6 j hj with q | ⟨t, q1, q2⟩
        · exact Or.inl q
        · right; exact ⟨t, by omega, by dsimp only; rw [if_neg (by omega)]; exact q2⟩
  · have hk' : own_hit ks cn k := (h5 k hk4).resolve_left c
    refine ⟨_, a1, a2, a3, _, _, _, ks, cn, O, ?_, by omega, ?_, ?_, ?_⟩
    · unfold own_ac; rw [if_neg c]; exact h2
    · intro t ht; unfold own_ak; rw [if_neg c]; exact h4 t ht
    · intro j hj; unfold own_ab; rw [if_neg c]; exact h5 j hj
    · intro j hj
      unfold own_aw
      by_cases e : j = k
      · right; rw [e]; exact hk'
      · rw [if_neg e]; exact h6 j hj
theorem own_k3 (x : Int32) : (x &&& (3 : Int32)).toInt = (((x &&& (3 : Int32)).toInt.toNat : Nat) : Int) ∧ (x &&& (3 : Int32)).toInt.toNat < 4 := by
  have h := c_mask x 3 2 (by decide) (by decide)
  omega
theorem own_lt2 {n : Int32} (h : n < (1 : Int32)) : n < (2 : Int32) := by
  have k1 : (1 : Int32).toInt = 1 := by decide
  have k2 : (2 : Int32).toInt = 2 := by decide
  rw [Int32.lt_iff_toInt_lt] at *; omega
theorem own_lt3 {n : Int32} (h : n < (2 : Int32)) : n < (3 : Int32) := by
  have k2 : (2 : Int32).toInt = 2 := by decide
  have k3 : (3 : Int32).toInt = 3 := by decide
  rw [Int32.lt_iff_toInt_lt] at *; omega
theorem own_eqn (x y : Int32) : ((x &&& (3 : Int32)) = (y &&& (3 : Int32))) = ((x &&& (3 : Int32)).toInt.toNat = (y &&& (3 : Int32)).toInt.toNat) := by
  have h1 := own_k3 x
  have h2 := own_k3 y
  apply propext
  constructor
  · intro h; rw [h]
  · intro h; exact Int32.toInt_inj.mp (by omega)
theorem own_nk {a b : Int32} (h : ¬ a = b) : ¬ a.toInt.toNat = b.toInt.toNat ∨ a.toInt < 0 ∨ b.toInt < 0 := by
  by_cases h1 : a.toInt < 0
  · exact Or.inr (Or.inl h1)
  by_cases h2 : b.toInt < 0
  · exact Or.inr (Or.inr h2)
  left
  intro e
  exact h (Int32.toInt_inj.mp (by omega))
theorem own_nn (x y : Int32) (h : ¬ (x &&& (3 : Int32)) = (y &&& (3 : Int32))) : ¬ (x &&& (3 : Int32)).toInt.toNat = (y &&& (3 : Int32)).toInt.toNat := by
  have h1 := c_mask x 3 2 (by decide) (by decide)
  have h2 := c_mask y 3 2 (by decide) (by decide)
  rcases own_nk h with g | g | g
  · exact g
  · omega
  · omega
def own_m0_170a (x0 : Int32) (x3 : Int64) (x4 : Int64) : Int64 := (if ((own_iushr x0 (12 : Int32)) &&& (3 : Int32)) = ((own_iushr x0 (8 : Int32)) &&& (3 : Int32)) then (x3 + x4) else (0 : Int64))
def own_m0_264a (x0 : Int32) (x3 : Int64) (x4 : Int64) : Int64 := (if ((own_iushr x0 (12 : Int32)) &&& (3 : Int32)) = ((own_iushr x0 (8 : Int32)) &&& (3 : Int32)) then x3 else (if ((own_iushr x0 (12 : Int32)) &&& (3 : Int32)) = ((own_iushr x0 (10 : Int32)) &&& (3 : Int32)) then x4 else (0 : Int64)))
theorem own_q189 (x0 : Int32) (x3 x4 : Int64) (K : Nat → Int32) (c147 : ((own_iushr x0 (8 : Int32)) &&& (3 : Int32)) = ((own_iushr x0 (10 : Int32)) &&& (3 : Int32))) : (own_ak (own_ak K (fun _ => (0 : Int32)) ((own_iushr x0 (8 : Int32)) &&& (3 : Int32)).toInt.toNat 0 ((own_iushr x0 (8 : Int32)) &&& (3 : Int32))) (own_ab (fun _ => (0 : Int32)) ((own_iushr x0 (8 : Int32)) &&& (3 : Int32)).toInt.toNat) ((own_iushr x0 (10 : Int32)) &&& (3 : Int32)).toInt.toNat 1 ((own_iushr x0 (10 : Int32)) &&& (3 : Int32))) 0 = ((own_iushr x0 (8 : Int32)) &&& (3 : Int32)) := by
  have e1 := own_eqn (own_iushr x0 (8 : Int32)) (own_iushr x0 (10 : Int32))
  have e2 := own_eqn (own_iushr x0 (12 : Int32)) (own_iushr x0 (8 : Int32))
  have e3 := own_eqn (own_iushr x0 (12 : Int32)) (own_iushr x0 (10 : Int32))
  have c148 := c147
  try unfold own_m0_170a
  try unfold own_m0_264a
  rw [e1] at c147
  try simp only [e2, e3]
  clear e1 e2 e3
  generalize ((own_iushr x0 (8 : Int32)) &&& (3 : Int32)).toInt.toNat = na at *
  generalize ((own_iushr x0 (10 : Int32)) &&& (3 : Int32)).toInt.toNat = nb at *
  generalize ((own_iushr x0 (12 : Int32)) &&& (3 : Int32)).toInt.toNat = nd at *
  by_cases h1 : nb = na <;> by_cases h2 : nd = na <;> by_cases h3 : nd = nb <;> simp_all [own_aw, own_ak, own_ab, own_ac]
theorem own_q201 (x0 : Int32) (x3 x4 : Int64) (K : Nat → Int32) (c147 : ((own_iushr x0 (8 : Int32)) &&& (3 : Int32)) = ((own_iushr x0 (10 : Int32)) &&& (3 : Int32))) : (own_aw (own_aw (fun _ => (0 : Int64)) ((own_iushr x0 (8 : Int32)) &&& (3 : Int32)).toInt.toNat x3) ((own_iushr x0 (10 : Int32)) &&& (3 : Int32)).toInt.toNat x4) (((own_iushr x0 (8 : Int32)) &&& (3 : Int32)).toInt.toNat) = (x3 + x4) := by
  have e1 := own_eqn (own_iushr x0 (8 : Int32)) (own_iushr x0 (10 : Int32))
  have e2 := own_eqn (own_iushr x0 (12 : Int32)) (own_iushr x0 (8 : Int32))
  have e3 := own_eqn (own_iushr x0 (12 : Int32)) (own_iushr x0 (10 : Int32))
  have c148 := c147
  try unfold own_m0_170a
  try unfold own_m0_264a
  rw [e1] at c147
  try simp only [e2, e3]
  clear e1 e2 e3
  generalize ((own_iushr x0 (8 : Int32)) &&& (3 : Int32)).toInt.toNat = na at *
  generalize ((own_iushr x0 (10 : Int32)) &&& (3 : Int32)).toInt.toNat = nb at *
  generalize ((own_iushr x0 (12 : Int32)) &&& (3 : Int32)).toInt.toNat = nd at *
  by_cases h1 : nb = na <;> by_cases h2 : nd = na <;> by_cases h3 : nd = nb <;> simp_all [own_aw, own_ak, own_ab, own_ac]
theorem own_q214 (x0 : Int32) (x3 x4 : Int64) (K : Nat → Int32) (c147 : ((own_iushr x0 (8 : Int32)) &&& (3 : Int32)) = ((own_iushr x0 (10 : Int32)) &&& (3 : Int32))) : (own_aw (own_aw (fun _ => (0 : Int64)) ((own_iushr x0 (8 : Int32)) &&& (3 : Int32)).toInt.toNat x3) ((own_iushr x0 (10 : Int32)) &&& (3 : Int32)).toInt.toNat x4) (((own_iushr x0 (12 : Int32)) &&& (3 : Int32)).toInt.toNat) = (own_m0_170a x0 x3 x4) := by
  have e1 := own_eqn (own_iushr x0 (8 : Int32)) (own_iushr x0 (10 : Int32))
  have e2 := own_eqn (own_iushr x0 (12 : Int32)) (own_iushr x0 (8 : Int32))
  have e3 := own_eqn (own_iushr x0 (12 : Int32)) (own_iushr x0 (10 : Int32))
  have c148 := c147
  try unfold own_m0_170a
  try unfold own_m0_264a
  rw [e1] at c147
  try simp only [e2, e3]
  clear e1 e2 e3
  generalize ((own_iushr x0 (8 : Int32)) &&& (3 : Int32)).toInt.toNat = na at *
  generalize ((own_iushr x0 (10 : Int32)) &&& (3 : Int32)).toInt.toNat = nb at *
  generalize ((own_iushr x0 (12 : Int32)) &&& (3 : Int32)).toInt.toNat = nd at *
  by_cases h1 : nb = na <;> by_cases h2 : nd = na <;> by_cases h3 : nd = nb <;> simp_all [own_aw, own_ak, own_ab, own_ac]
theorem own_q281 (x0 : Int32) (x3 x4 : Int64) (K : Nat → Int32) (c147 : ¬ ((own_iushr x0 (8 : Int32)) &&& (3 : Int32)) = ((own_iushr x0 (10 : Int32)) &&& (3 : Int32))) : (own_ak (own_ak K (fun _ => (0 : Int32)) ((own_iushr x0 (8 : Int32)) &&& (3 : Int32)).toInt.toNat 0 ((own_iushr x0 (8 : Int32)) &&& (3 : Int32))) (own_ab (fun _ => (0 : Int32)) ((own_iushr x0 (8 : Int32)) &&& (3 : Int32)).toInt.toNat) ((own_iushr x0 (10 : Int32)) &&& (3 : Int32)).toInt.toNat 1 ((own_iushr x0 (10 : Int32)) &&& (3 : Int32))) 0 = ((own_iushr x0 (8 : Int32)) &&& (3 : Int32)) := by
  have e1 := own_eqn (own_iushr x0 (8 : Int32)) (own_iushr x0 (10 : Int32))
  have e2 := own_eqn (own_iushr x0 (12 : Int32)) (own_iushr x0 (8 : Int32))
  have e3 := own_eqn (own_iushr x0 (12 : Int32)) (own_iushr x0 (10 : Int32))
  have c148 := c147
  try unfold own_m0_170a
  try unfold own_m0_264a
  rw [e1] at c147
  try simp only [e2, e3]
  clear e1 e2 e3
  generalize ((own_iushr x0 (8 : Int32)) &&& (3 : Int32)).toInt.toNat = na at *
  generalize ((own_iushr x0 (10 : Int32)) &&& (3 : Int32)).toInt.toNat = nb at *
  generalize ((own_iushr x0 (12 : Int32)) &&& (3 : Int32)).toInt.toNat = nd at *
  by_cases h1 : nb = na <;> by_cases h2 : nd = na <;> by_cases h3 : nd = nb <;> simp_all [own_aw, own_ak, own_ab, own_ac]
theorem own_q292 (x0 : Int32) (x3 x4 : Int64) (K : Nat → Int32) (c147 : ¬ ((own_iushr x0 (8 : Int32)) &&& (3 : Int32)) = ((own_iushr x0 (10 : Int32)) &&& (3 : Int32))) : (own_ak (own_ak K (fun _ => (0 : Int32)) ((own_iushr x0 (8 : Int32)) &&& (3 : Int32)).toInt.toNat 0 ((own_iushr x0 (8 : Int32)) &&& (3 : Int32))) (own_ab (fun _ => (0 : Int32)) ((own_iushr x0 (8 : Int32)) &&& (3 : Int32)).toInt.toNat) ((own_iushr x0 (10 : Int32)) &&& (3 : Int32)).toInt.toNat 1 ((own_iushr x0 (10 : Int32)) &&& (3 : Int32))) 1 = ((own_iushr x0 (10 : Int32)) &&& (3 : Int32)) := by
  have e1 := own_eqn (own_iushr x0 (8 : Int32)) (own_iushr x0 (10 : Int32))
  have e2 := own_eqn (own_iushr x0 (12 : Int32)) (own_iushr x0 (8 : Int32))
  have e3 := own_eqn (own_iushr x0 (12 : Int32)) (own_iushr x0 (10 : Int32))
  have c148 := c147
  try unfold own_m0_170a
  try unfold own_m0_264a
  rw [e1] at c147
  try simp only [e2, e3]
  clear e1 e2 e3
  generalize ((own_iushr x0 (8 : Int32)) &&& (3 : Int32)).toInt.toNat = na at *
  generalize ((own_iushr x0 (10 : Int32)) &&& (3 : Int32)).toInt.toNat = nb at *
  generalize ((own_iushr x0 (12 : Int32)) &&& (3 : Int32)).toInt.toNat = nd at *
  by_cases h1 : nb = na <;> by_cases h2 : nd = na <;> by_cases h3 : nd = nb <;> simp_all [own_aw, own_ak, own_ab, own_ac]
theorem own_q304 (x0 : Int32) (x3 x4 : Int64) (K : Nat → Int32) (c147 : ¬ ((own_iushr x0 (8 : Int32)) &&& (3 : Int32)) = ((own_iushr x0 (10 : Int32)) &&& (3 : Int32))) : (own_aw (own_aw (fun _ => (0 : Int64)) ((own_iushr x0 (8 : Int32)) &&& (3 : Int32)).toInt.toNat x3) ((own_iushr x0 (10 : Int32)) &&& (3 : Int32)).toInt.toNat x4) (((own_iushr x0 (8 : Int32)) &&& (3 : Int32)).toInt.toNat) = x3 := by
  have e1 := own_eqn (own_iushr x0 (8 : Int32)) (own_iushr x0 (10 : Int32))
  have e2 := own_eqn (own_iushr x0 (12 : Int32)) (own_iushr x0 (8 : Int32))
  have e3 := own_eqn (own_iushr x0 (12 : Int32)) (own_iushr x0 (10 : Int32))
  have c148 := c147
  try unfold own_m0_170a
  try unfold own_m0_264a
  rw [e1] at c147
  try simp only [e2, e3]
  clear e1 e2 e3
  generalize ((own_iushr x0 (8 : Int32)) &&& (3 : Int32)).toInt.toNat = na at *
  generalize ((own_iushr x0 (10 : Int32)) &&& (3 : Int32)).toInt.toNat = nb at *
  generalize ((own_iushr x0 (12 : Int32)) &&& (3 : Int32)).toInt.toNat = nd at *
  by_cases h1 : nb = na <;> by_cases h2 : nd = na <;> by_cases h3 : nd = nb <;> simp_all [own_aw, own_ak, own_ab, own_ac]
theorem own_q317 (x0 : Int32) (x3 x4 : Int64) (K : Nat → Int32) (c147 : ¬ ((own_iushr x0 (8 : Int32)) &&& (3 : Int32)) = ((own_iushr x0 (10 : Int32)) &&& (3 : Int32))) : (own_aw (own_aw (fun _ => (0 : Int64)) ((own_iushr x0 (8 : Int32)) &&& (3 : Int32)).toInt.toNat x3) ((own_iushr x0 (10 : Int32)) &&& (3 : Int32)).toInt.toNat x4) (((own_iushr x0 (10 : Int32)) &&& (3 : Int32)).toInt.toNat) = x4 := by
  have e1 := own_eqn (own_iushr x0 (8 : Int32)) (own_iushr x0 (10 : Int32))
  have e2 := own_eqn (own_iushr x0 (12 : Int32)) (own_iushr x0 (8 : Int32))
  have e3 := own_eqn (own_iushr x0 (12 : Int32)) (own_iushr x0 (10 : Int32))
  have c148 := c147
  try unfold own_m0_170a
  try unfold own_m0_264a
  rw [e1] at c147
  try simp only [e2, e3]
  clear e1 e2 e3
  generalize ((own_iushr x0 (8 : Int32)) &&& (3 : Int32)).toInt.toNat = na at *
  generalize ((own_iushr x0 (10 : Int32)) &&& (3 : Int32)).toInt.toNat = nb at *
  generalize ((own_iushr x0 (12 : Int32)) &&& (3 : Int32)).toInt.toNat = nd at *
  by_cases h1 : nb = na <;> by_cases h2 : nd = na <;> by_cases h3 : nd = nb <;> simp_all [own_aw, own_ak, own_ab, own_ac]
theorem own_q330 (x0 : Int32) (x3 x4 : Int64) (K : Nat → Int32) (c147 : ¬ ((own_iushr x0 (8 : Int32)) &&& (3 : Int32)) = ((own_iushr x0 (10 : Int32)) &&& (3 : Int32))) : (own_aw (own_aw (fun _ => (0 : Int64)) ((own_iushr x0 (8 : Int32)) &&& (3 : Int32)).toInt.toNat x3) ((own_iushr x0 (10 : Int32)) &&& (3 : Int32)).toInt.toNat x4) (((own_iushr x0 (12 : Int32)) &&& (3 : Int32)).toInt.toNat) = (own_m0_264a x0 x3 x4) := by
  have e1 := own_eqn (own_iushr x0 (8 : Int32)) (own_iushr x0 (10 : Int32))
  have e2 := own_eqn (own_iushr x0 (12 : Int32)) (own_iushr x0 (8 : Int32))
  have e3 := own_eqn (own_iushr x0 (12 : Int32)) (own_iushr x0 (10 : Int32))
  have c148 := c147
  try unfold own_m0_170a
  try unfold own_m0_264a
  rw [e1] at c147
  try simp only [e2, e3]
  clear e1 e2 e3
  generalize ((own_iushr x0 (8 : Int32)) &&& (3 : Int32)).toInt.toNat = na at *
  generalize ((own_iushr x0 (10 : Int32)) &&& (3 : Int32)).toInt.toNat = nb at *
  generalize ((own_iushr x0 (12 : Int32)) &&& (3 : Int32)).toInt.toNat = nd at *
  by_cases h1 : nb = na <;> by_cases h2 : nd = na <;> by_cases h3 : nd = nb <;> simp_all [own_aw, own_ak, own_ab, own_ac]
theorem own_ct1 (x0 : Int32) (x3 x4 : Int64) (K : Nat → Int32) (c147 : ((own_iushr x0 (8 : Int32)) &&& (3 : Int32)) = ((own_iushr x0 (10 : Int32)) &&& (3 : Int32))) : (own_ac (1 : Int32) (own_ab (fun _ => (0 : Int32)) ((own_iushr x0 (8 : Int32)) &&& (3 : Int32)).toInt.toNat) ((own_iushr x0 (10 : Int32)) &&& (3 : Int32)).toInt.toNat) = (1 : Int32) := by
  have e1 := own_eqn (own_iushr x0 (8 : Int32)) (own_iushr x0 (10 : Int32))
  have e2 := own_eqn (own_iushr x0 (12 : Int32)) (own_iushr x0 (8 : Int32))
  have e3 := own_eqn (own_iushr x0 (12 : Int32)) (own_iushr x0 (10 : Int32))
  have c148 := c147
  try unfold own_m0_170a
  try unfold own_m0_264a
  rw [e1] at c147
  try simp only [e2, e3]
  clear e1 e2 e3
  generalize ((own_iushr x0 (8 : Int32)) &&& (3 : Int32)).toInt.toNat = na at *
  generalize ((own_iushr x0 (10 : Int32)) &&& (3 : Int32)).toInt.toNat = nb at *
  generalize ((own_iushr x0 (12 : Int32)) &&& (3 : Int32)).toInt.toNat = nd at *
  by_cases h1 : nb = na <;> by_cases h2 : nd = na <;> by_cases h3 : nd = nb <;> simp_all [own_aw, own_ak, own_ab, own_ac]
theorem own_ct2 (x0 : Int32) (x3 x4 : Int64) (K : Nat → Int32) (c147 : ¬ ((own_iushr x0 (8 : Int32)) &&& (3 : Int32)) = ((own_iushr x0 (10 : Int32)) &&& (3 : Int32))) : (own_ac (1 : Int32) (own_ab (fun _ => (0 : Int32)) ((own_iushr x0 (8 : Int32)) &&& (3 : Int32)).toInt.toNat) ((own_iushr x0 (10 : Int32)) &&& (3 : Int32)).toInt.toNat) = (2 : Int32) := by
  have e1 := own_eqn (own_iushr x0 (8 : Int32)) (own_iushr x0 (10 : Int32))
  have e2 := own_eqn (own_iushr x0 (12 : Int32)) (own_iushr x0 (8 : Int32))
  have e3 := own_eqn (own_iushr x0 (12 : Int32)) (own_iushr x0 (10 : Int32))
  have c148 := c147
  try unfold own_m0_170a
  try unfold own_m0_264a
  rw [e1] at c147
  try simp only [e2, e3]
  clear e1 e2 e3
  generalize ((own_iushr x0 (8 : Int32)) &&& (3 : Int32)).toInt.toNat = na at *
  generalize ((own_iushr x0 (10 : Int32)) &&& (3 : Int32)).toInt.toNat = nb at *
  generalize ((own_iushr x0 (12 : Int32)) &&& (3 : Int32)).toInt.toNat = nd at *
  by_cases h1 : nb = na <;> by_cases h2 : nd = na <;> by_cases h3 : nd = nb <;> simp_all [own_aw, own_ak, own_ab, own_ac]
set_option maxRecDepth 65536 in
set_option maxHeartbeats 40000000 in
theorem own_p2 (l : Launch) (Z : State) (a0 : Array Value) (hw : ∀ d ∈ tables_1, d.before a0 Z = true) (x0 : Int32) (x1 : Int64) (x2 : Int64) (x3 : Int64) (x4 : Int64) (o : Addr) (n0 : Nat) {p : Program} {e : Env} {s : State} {m : MethodId} {args : Array Value} {below : List Frame} {meth : Method} {c : Code} (hx : p.tables.exec = Jvm.exec) (hby : c.code = code) (hml : c.maxLocals = 22) (hown : s.vm.findClass "com/example/shardloom/shardloom/TiesClearPinLaw" = some m.cls) (hZ : Z.Warmed39 s.vm) (hret : meth.sig.returnType = ret) (hlk : meth.locks = false)
    (T0 : State) (locs : List Loc) (h0 : Heap) (X0 : Stand p l e room_1 s m args below meth c T0 locs (4) (16)) (N0 : Fr n0 locs) (Z0 : n0 ≤ h0.size) (e0 : T0.heap = h0) (S : own_St Z h0 n0 o 3) : own_Fin p e below s (room_1.cells) (room_1.slots) (fun v h L => v = some (.int 1) ∧ Fr n0 L) (T0.setTop (mkF m 105 #[.val (.int x0), .val (.long x1), .second, .val (.long x2), .second, .val (.long x3), .second, .val (.long x4), .second, .val (.ref o), .val (.int (x0 &&& (3 : Int32))), .val (.int ((own_iushr x0 (2 : Int32)) &&& (3 : Int32))), .val (.int ((own_iushr x0 (4 : Int32)) &&& (3 : Int32))), .val (.int ((own_iushr x0 (6 : Int32)) &&& (3 : Int32))), .val (.int ((own_iushr x0 (8 : Int32)) &&& (3 : Int32))), .val (.int ((own_iushr x0 (10 : Int32)) &&& (3 : Int32))), .val (.int ((own_iushr x0 (12 : Int32)) &&& (3 : Int32))), .unset, .unset, .unset, .unset, .unset] [])) := by
  obtain ⟨ct, a1, a2, a3, W, K, B, ks, cn, O, hct, hcn, hks, hB, hW⟩ := S
  show own_Fin _ _ _ _ _ _ _ (T0.setTop (mkF m 105 #[.val (.int x0), .val (.long x1), .second, .val (.long x2), .second, .val (.long x3), .second, .val (.long x4), .second, .val (.ref o), .val (.int (x0 &&& (3 : Int32))), .val (.int ((own_iushr x0 (2 : Int32)) &&& (3 : Int32))), .val (.int ((own_iushr x0 (4 : Int32)) &&& (3 : Int32))), .val (.int ((own_iushr x0 (6 : Int32)) &&& (3 : Int32))), .val (.int ((own_iushr x0 (8 : Int32)) &&& (3 : Int32))), .val (.int ((own_iushr x0 (10 : Int32)) &&& (3 : Int32))), .val (.int ((own_iushr x0 (12 : Int32)) &&& (3 : Int32))), .unset, .unset, .unset, .unset, .unset] []))
  refine own_of (fun _ kk => XS.aload X0.here hx rfl (hb hby at_105) rfl rfl kk) ?_
  show own_Fin _ _ _ _ _ _ _ (T0.setTop (mkF m 107 #[.val (.int x0), .val (.long x1), .second, .val (.long x2), .second, .val (.long x3), .second, .val (.long x4), .second, .val (.ref o), .val (.int (x0 &&& (3 : Int32))), .val (.int ((own_iushr x0 (2 : Int32)) &&& (3 : Int32))), .val (.int ((own_iushr x0 (4 : Int32)) &&& (3 : Int32))), .val (.int ((own_iushr x0 (6 : Int32)) &&& (3 : Int32))), .val (.int ((own_iushr x0 (8 : Int32)) &&& (3 : Int32))), .val (.int ((own_iushr x0 (10 : Int32)) &&& (3 : Int32))), .val (.int ((own_iushr x0 (12 : Int32)) &&& (3 : Int32))), .unset, .unset, .unset, .unset, .unset] [(.ref o)]))
  refine own_callV X0 hx hZ (y := (⟨"com/example/shardloom/shardloom/Ties", "clear", "()V"⟩ : MethodName)) (z := (⟨"com/example/shardloom/shardloom/Ties", "clear", "()V"⟩ : MethodName)) hown (hw _ (List.mem_of_getElem? (i := 18) rfl)) (hw _ (List.mem_of_getElem? (i := 19) rfl)) (notFace_of_selects (args := #[]) (mvT hZ (hw _ (List.mem_of_getElem? (i := 21) rfl)))) (hw _ (List.mem_of_getElem? (i := 21) rfl)) (hw _ (List.mem_of_getElem? (i := 20) rfl)) (hw _ (List.mem_of_getElem? (i := 2) rfl)) (hw _ (List.mem_of_getElem? (i := 22) rfl)) (by decide) e0 O.1 (argsL := []) (met3 l Z a0 hw o ct a1 a2 a3 W K B ks cn h0 n0 Z0 O hct (by omega) hks) (W := 0) (by decide) (by decide) (by decide) (by decide) (by rw [hml]; rfl) pd_1 rfl (rest := []) rfl (Nat.le_of_eq rfl) (hb hby at_107) ?_
  intro v1 T1 h1 L1 X1 e1 q1
  obtain ⟨rfl, N1q, Z1, O1⟩ := q1
  have N1 := Fr.app N0 N1q
  show own_Fin _ _ _ _ _ _ _ (T1.setTop (mkF m 110 #[.val (.int x0), .val (.long x1), .second, .val (.long x2), .second, .val (.long x3), .second, .val (.long x4), .second, .val (.ref o), .val (.int (x0 &&& (3 : Int32))), .val (.int ((own_iushr x0 (2 : Int32)) &&& (3 : Int32))), .val (.int ((own_iushr x0 (4 : Int32)) &&& (3 : Int32))), .val (.int ((own_iushr x0 (6 : Int32)) &&& (3 : Int32))), .val (.int ((own_iushr x0 (8 : Int32)) &&& (3 : Int32))), .val (.int ((own_iushr x0 (10 : Int32)) &&& (3 : Int32))), .val (.int ((own_iushr x0 (12 : Int32)) &&& (3 : Int32))), .unset, .unset, .unset, .unset, .unset] []))
  obtain ⟨E_, Fc_, Fw_, Fk_, Fl_, A1_, A2_, A3_, R_⟩ := O1
  have O1 : own_Obj Z h1 n0 o 0 a1 a2 a3 (fun _ => 0) K (fun _ => 0) := ⟨E_, Fc_, Fw_, Fk_, Fl_, A1_.congr (fun j hj => by dsimp only; unfold own_cw; rcases hW j hj with q | q; (split; rfl; rw [q]); rw [if_pos ((own_hitb_iff _ _ _).mpr q)]), A2_, A3_.congr (fun j hj => by dsimp only; unfold own_cb; rcases hB j hj with q | q; (split; rfl; rw [q]); rw [if_pos ((own_hitb_iff _ _ _).mpr q)]), R_⟩
  refine own_of (fun _ kk => XS.aload X1.here hx rfl (hb hby at_110) rfl rfl kk) ?_
  show own_Fin _ _ _ _ _ _ _ (T1.setTop (mkF m 112 #[.val (.int x0), .val (.long x1), .second, .val (.long x2), .second, .val (.long x3), .second, .val (.long x4), .second, .val (.ref o), .val (.int (x0 &&& (3 : Int32))), .val (.int ((own_iushr x0 (2 : Int32)) &&& (3 : Int32))), .val (.int ((own_iushr x0 (4 : Int32)) &&& (3 : Int32))), .val (.int ((own_iushr x0 (6 : Int32)) &&& (3 : Int32))), .val (.int ((own_iushr x0 (8 : Int32)) &&& (3 : Int32))), .val (.int ((own_iushr x0 (10 : Int32)) &&& (3 : Int32))), .val (.int ((own_iushr x0 (12 : Int32)) &&& (3 : Int32))), .unset, .unset, .unset, .unset, .unset] [(.ref o)]))
  refine own_callV X1 hx hZ (y := (⟨"com/example/shardloom/shardloom/Ties", "count", "()I"⟩ : MethodName)) (z := (⟨"com/example/shardloom/shardloom/Ties", "count", "()I"⟩ : MethodName)) hown (hw _ (List.mem_of_getElem? (i := 25) rfl)) (hw _ (List.mem_of_getElem? (i := 26) rfl)) (notFace_of_selects (args := #[]) (mvT hZ (hw _ (List.mem_of_getElem? (i := 28) rfl)))) (hw _ (List.mem_of_getElem? (i := 28) rfl)) (hw _ (List.mem_of_getElem? (i := 27) rfl)) (hw _ (List.mem_of_getElem? (i := 2) rfl)) (hw _ (List.mem_of_getElem? (i := 29) rfl)) (by decide) e1 O1.1 (argsL := []) (met4 l Z a0 hw o (0 : Int32) a1 a2 a3 (fun _ => (0 : Int64)) K (fun _ => (0 : Int32)) h1 n0 Z1 O1) (W := 0) (by decide) (by decide) (by decide) (by decide) (by rw [hml]; rfl) pd_0 rfl (rest := []) rfl (Nat.le_of_eq rfl) (hb hby at_112) ?_
  intro v2 T2 h2 L2 X2 e2 q2
  obtain ⟨rfl, qh2, rfl⟩ := q2
  rw [qh2] at e2
  have N2 := Fr.app N1 (Fr.nil n0)
  show own_Fin _ _ _ _ _ _ _ (T2.setTop (mkF m 115 #[.val (.int x0), .val (.long x1), .second, .val (.long x2), .second, .val (.long x3), .second, .val (.long x4), .second, .val (.ref o), .val (.int (x0 &&& (3 : Int32))), .val (.int ((own_iushr x0 (2 : Int32)) &&& (3 : Int32))), .val (.int ((own_iushr x0 (4 : Int32)) &&& (3 : Int32))), .val (.int ((own_iushr x0 (6 : Int32)) &&& (3 : Int32))), .val (.int ((own_iushr x0 (8 : Int32)) &&& (3 : Int32))), .val (.int ((own_iushr x0 (10 : Int32)) &&& (3 : Int32))), .val (.int ((own_iushr x0 (12 : Int32)) &&& (3 : Int32))), .unset, .unset, .unset, .unset, .unset] [(.int (0 : Int32))]))
  refine own_of (fun _ kk => XS.ifNo X2.here hx rfl (hb hby at_115) rfl ((if0 _ _).trans (teq (by decide : ((0 : Int32) = (0 : Int32)))).2) kk) ?_
  show own_Fin _ _ _ _ _ _ _ (T2.setTop (mkF m 118 #[.val (.int x0), .val (.long x1), .second, .val (.long x2), .second, .val (.long x3), .second, .val (.long x4), .second, .val (.ref o), .val (.int (x0 &&& (3 : Int32))), .val (.int ((own_iushr x0 (2 : Int32)) &&& (3 : Int32))), .val (.int ((own_iushr x0 (4 : Int32)) &&& (3 : Int32))), .val (.int ((own_iushr x0 (6 : Int32)) &&& (3 : Int32))), .val (.int ((own_iushr x0 (8 : Int32)) &&& (3 : Int32))), .val (.int ((own_iushr x0 (10 : Int32)) &&& (3 : Int32))), .val (.int ((own_iushr x0 (12 : Int32)) &&& (3 : Int32))), .unset, .unset, .unset, .unset, .unset] []))
  refine own_of (fun _ kk => XS.iconst X2.here hx rfl (hb hby at_118) kk) ?_
  show own_Fin _ _ _ _ _ _ _ (T2.setTop (mkF m 119 #[.val (.int x0), .val (.long x1), .second, .val (.long x2), .second, .val (.long x3), .second, .val (.long x4), .second, .val (.ref o), .val (.int (x0 &&& (3 : Int32))), .val (.int ((own_iushr x0 (2 : Int32)) &&& (3 : Int32))), .val (.int ((own_iushr x0 (4 : Int32)) &&& (3 : Int32))), .val (.int ((own_iushr x0 (6 : Int32)) &&& (3 : Int32))), .val (.int ((own_iushr x0 (8 : Int32)) &&& (3 : Int32))), .val (.int ((own_iushr x0 (10 : Int32)) &&& (3 : Int32))), .val (.int ((own_iushr x0 (12 : Int32)) &&& (3 : Int32))), .unset, .unset, .unset, .unset, .unset] [(.int (1 : Int32))]))
  refine own_of (fun _ kk => XS.goto X2.here hx rfl (pc0 := 119) (pc' := 123) rfl (hb hby at_119) (by decide) (by decide) kk) ?_
  show own_Fin _ _ _ _ _ _ _ (T2.setTop (mkF m 123 #[.val (.int x0), .val (.long x1), .second, .val (.long x2), .second, .val (.long x3), .second, .val (.long x4), .second, .val (.ref o), .val (.int (x0 &&& (3 : Int32))), .val (.int ((own_iushr x0 (2 : Int32)) &&& (3 : Int32))), .val (.int ((own_iushr x0 (4 : Int32)) &&& (3 : Int32))), .val (.int ((own_iushr x0 (6 : Int32)) &&& (3 : Int32))), .val (.int ((own_iushr x0 (8 : Int32)) &&& (3 : Int32))), .val (.int ((own_iushr x0 (10 : Int32)) &&& (3 : Int32))), .val (.int ((own_iushr x0 (12 : Int32)) &&& (3 : Int32))), .unset, .unset, .unset, .unset, .unset] [(.int (1 : Int32))]))
  refine own_of (fun _ kk => XS.istore X2.here hx rfl (hb hby at_123) rfl (l' := #[.val (.int x0), .val (.long x1), .second, .val (.long x2), .second, .val (.long x3), .second, .val (.long x4), .second, .val (.ref o), .val (.int (x0 &&& (3 : Int32))), .val (.int ((own_iushr x0 (2 : Int32)) &&& (3 : Int32))), .val (.int ((own_iushr x0 (4 : Int32)) &&& (3 : Int32))), .val (.int ((own_iushr x0 (6 : Int32)) &&& (3 : Int32))), .val (.int ((own_iushr x0 (8 : Int32)) &&& (3 : Int32))), .val (.int ((own_iushr x0 (10 : Int32)) &&& (3 : Int32))), .val (.int ((own_iushr x0 (12 : Int32)) &&& (3 : Int32))), .val (.int (1 : Int32)), .unset, .unset, .unset, .unset]) rfl kk) ?_
  show own_Fin _ _ _ _ _ _ _ (T2.setTop (mkF m 125 #[.val (.int x0), .val (.long x1), .second, .val (.long x2), .second, .val (.long x3), .second, .val (.long x4), .second, .val (.ref o), .val (.int (x0 &&& (3 : Int32))), .val (.int ((own_iushr x0 (2 : Int32)) &&& (3 : Int32))), .val (.int ((own_iushr x0 (4 : Int32)) &&& (3 : Int32))), .val (.int ((own_iushr x0 (6 : Int32)) &&& (3 : Int32))), .val (.int ((own_iushr x0 (8 : Int32)) &&& (3 : Int32))), .val (.int ((own_iushr x0 (10 : Int32)) &&& (3 : Int32))), .val (.int ((own_iushr x0 (12 : Int32)) &&& (3 : Int32))), .val (.int (1 : Int32)), .unset, .unset, .unset, .unset] []))
  refine own_of (fun _ kk => XS.aload X2.here hx rfl (hb hby at_125) rfl rfl kk) ?_
  show own_Fin _ _ _ _ _ _ _ (T2.setTop (mkF m 127 #[.val (.int x0), .val (.long x1), .second, .val (.long x2), .second, .val (.long x3), .second, .val (.long x4), .second, .val (.ref o), .val (.int (x0 &&& (3 : Int32))), .val (.int ((own_iushr x0 (2 : Int32)) &&& (3 : Int32))), .val (.int ((own_iushr x0 (4 : Int32)) &&& (3 : Int32))), .val (.int ((own_iushr x0 (6 : Int32)) &&& (3 : Int32))), .val (.int ((own_iushr x0 (8 : Int32)) &&& (3 : Int32))), .val (.int ((own_iushr x0 (10 : Int32)) &&& (3 : Int32))), .val (.int ((own_iushr x0 (12 : Int32)) &&& (3 : Int32))), .val (.int (1 : Int32)), .unset, .unset, .unset, .unset] [(.ref o)]))
  refine own_of (fun _ kk => XS.iload X2.here hx rfl (hb hby at_127) rfl kk) ?_
  show own_Fin _ _ _ _ _ _ _ (T2.setTop (mkF m 129 #[.val (.int x0), .val (.long x1), .second, .val (.long x2), .second, .val (.long x3), .second, .val (.long x4), .second, .val (.ref o), .val (.int (x0 &&& (3 : Int32))), .val (.int ((own_iushr x0 (2 : Int32)) &&& (3 : Int32))), .val (.int ((own_iushr x0 (4 : Int32)) &&& (3 : Int32))), .val (.int ((own_iushr x0 (6 : Int32)) &&& (3 : Int32))), .val (.int ((own_iushr x0 (8 : Int32)) &&& (3 : Int32))), .val (.int ((own_iushr x0 (10 : Int32)) &&& (3 : Int32))), .val (.int ((own_iushr x0 (12 : Int32)) &&& (3 : Int32))), .val (.int (1 : Int32)), .unset, .unset, .unset, .unset] [(.int ((own_iushr x0 (8 : Int32)) &&& (3 : Int32))), (.ref o)]))
  refine own_of (fun _ kk => XS.lload X2.here hx rfl (hb hby at_129) rfl kk) ?_
  show own_Fin _ _ _ _ _ _ _ (T2.setTop (mkF m 131 #[.val (.int x0), .val (.long x1), .second, .val (.long x2), .second, .val (.long x3), .second, .val (.long x4), .second, .val (.ref o), .val (.int (x0 &&& (3 : Int32))), .val (.int ((own_iushr x0 (2 : Int32)) &&& (3 : Int32))), .val (.int ((own_iushr x0 (4 : Int32)) &&& (3 : Int32))), .val (.int ((own_iushr x0 (6 : Int32)) &&& (3 : Int32))), .val (.int ((own_iushr x0 (8 : Int32)) &&& (3 : Int32))), .val (.int ((own_iushr x0 (10 : Int32)) &&& (3 : Int32))), .val (.int ((own_iushr x0 (12 : Int32)) &&& (3 : Int32))), .val (.int (1 : Int32)), .unset, .unset, .unset, .unset] [(.long x3), (.int ((own_iushr x0 (8 : Int32)) &&& (3 : Int32))), (.ref o)]))
  refine own_callV X2 hx hZ (y := (⟨"com/example/shardloom/shardloom/Ties", "add", "(IJ)V"⟩ : MethodName)) (z := (⟨"com/example/shardloom/shardloom/Ties", "add", "(IJ)V"⟩ : MethodName)) hown (hw _ (List.mem_of_getElem? (i := 30) rfl)) (hw _ (List.mem_of_getElem? (i := 31) rfl)) (notFace_of_selects (args := #[]) (mvT hZ (hw _ (List.mem_of_getElem? (i := 33) rfl)))) (hw _ (List.mem_of_getElem? (i := 33) rfl)) (hw _ (List.mem_of_getElem? (i := 32) rfl)) (hw _ (List.mem_of_getElem? (i := 2) rfl)) (hw _ (List.mem_of_getElem? (i := 34) rfl)) (by decide) e2 O1.1 (argsL := [(.int ((own_iushr x0 (8 : Int32)) &&& (3 : Int32))), (.long x3)]) (met5 l Z a0 hw o ((own_iushr x0 (8 : Int32)) &&& (3 : Int32)) x3 (0 : Int32) a1 a2 a3 (fun _ => (0 : Int64)) K (fun _ => (0 : Int32)) ((own_iushr x0 (8 : Int32)) &&& (3 : Int32)).toInt.toNat 0 h1 n0 Z1 O1 (own_k3 _).1 (own_k3 _).2 (by decide) (by decide)) (W := 0) (by decide) (by decide) (by decide) (by decide) (by rw [hml]; rfl) pd_5 rfl (rest := []) rfl (Nat.le_of_eq rfl) (hb hby at_131) ?_
  intro v3 T3 h3 L3 X3 e3 q3
  obtain ⟨rfl, N3q, Z3, O3⟩ := q3
  have N3 := Fr.app N2 N3q
  show own_Fin _ _ _ _ _ _ _ (T3.setTop (mkF m 134 #[.val (.int x0), .val (.long x1), .second, .val (.long x2), .second, .val (.long x3), .second, .val (.long x4), .second, .val (.ref o), .val (.int (x0 &&& (3 : Int32))), .val (.int ((own_iushr x0 (2 : Int32)) &&& (3 : Int32))), .val (.int ((own_iushr x0 (4 : Int32)) &&& (3 : Int32))), .val (.int ((own_iushr x0 (6 : Int32)) &&& (3 : Int32))), .val (.int ((own_iushr x0 (8 : Int32)) &&& (3 : Int32))), .val (.int ((own_iushr x0 (10 : Int32)) &&& (3 : Int32))), .val (.int ((own_iushr x0 (12 : Int32)) &&& (3 : Int32))), .val (.int (1 : Int32)), .unset, .unset, .unset, .unset] []))
  replace O3 : own_Obj Z h3 n0 o (1 : Int32) a1 a2 a3 (own_aw (fun _ => (0 : Int64)) ((own_iushr x0 (8 : Int32)) &&& (3 : Int32)).toInt.toNat x3) (own_ak K (fun _ => (0 : Int32)) ((own_iushr x0 (8 : Int32)) &&& (3 : Int32)).toInt.toNat 0 ((own_iushr x0 (8 : Int32)) &&& (3 : Int32))) (own_ab (fun _ => (0 : Int32)) ((own_iushr x0 (8 : Int32)) &&& (3 : Int32)).toInt.toNat) := O3
  refine own_of (fun _ kk => XS.aload X3.here hx rfl (hb hby at_134) rfl rfl kk) ?_
  show own_Fin _ _ _ _ _ _ _ (T3.setTop (mkF m 136 #[.val (.int x0), .val (.long x1), .second, .val (.long x2), .second, .val (.long x3), .second, .val (.long x4), .second, .val (.ref o), .val (.int (x0 &&& (3 : Int32))), .val (.int ((own_iushr x0 (2 : Int32)) &&& (3 : Int32))), .val (.int ((own_iushr x0 (4 : Int32)) &&& (3 : Int32))), .val (.int ((own_iushr x0 (6 : Int32)) &&& (3 : Int32))), .val (.int ((own_iushr x0 (8 : Int32)) &&& (3 : Int32))), .val (.int ((own_iushr x0 (10 : Int32)) &&& (3 : Int32))), .val (.int ((own_iushr x0 (12 : Int32)) &&& (3 : Int32))), .val (.int (1 : Int32)), .unset, .unset, .unset, .unset] [(.ref o)]))
  refine own_of (fun _ kk => XS.iload X3.here hx rfl (hb hby at_136) rfl kk) ?_
  show own_Fin _ _ _ _ _ _ _ (T3.setTop (mkF m 138 #[.val (.int x0), .val (.long x1), .second, .val (.long x2), .second, .val (.long x3), .second, .val (.long x4), .second, .val (.ref o), .val (.int (x0 &&& (3 : Int32))), .val (.int ((own_iushr x0 (2 : Int32)) &&& (3 : Int32))), .val (.int ((own_iushr x0 (4 : Int32)) &&& (3 : Int32))), .val (.int ((own_iushr x0 (6 : Int32)) &&& (3 : Int32))), .val (.int ((own_iushr x0 (8 : Int32)) &&& (3 : Int32))), .val (.int ((own_iushr x0 (10 : Int32)) &&& (3 : Int32))), .val (.int ((own_iushr x0 (12 : Int32)) &&& (3 : Int32))), .val (.int (1 : Int32)), .unset, .unset, .unset, .unset] [(.int ((own_iushr x0 (10 : Int32)) &&& (3 : Int32))), (.ref o)]))
  refine own_of (fun _ kk => XS.lload X3.here hx rfl (hb hby at_138) rfl kk) ?_
  show own_Fin _ _ _ _ _ _ _ (T3.setTop (mkF m 140 #[.val (.int x0), .val (.long x1), .second, .val (.long x2), .second, .val (.long x3), .second, .val (.long x4), .second, .val (.ref o), .val (.int (x0 &&& (3 : Int32))), .val (.int ((own_iushr x0 (2 : Int32)) &&& (3 : Int32))), .val (.int ((own_iushr x0 (4 : Int32)) &&& (3 : Int32))), .val (.int ((own_iushr x0 (6 : Int32)) &&& (3 : Int32))), .val (.int ((own_iushr x0 (8 : Int32)) &&& (3 : Int32))), .val (.int ((own_iushr x0 (10 : Int32)) &&& (3 : Int32))), .val (.int ((own_iushr x0 (12 : Int32)) &&& (3 : Int32))), .val (.int (1 : Int32)), .unset, .unset, .unset, .unset] [(.long x4), (.int ((own_iushr x0 (10 : Int32)) &&& (3 : Int32))), (.ref o)]))
  refine own_callV X3 hx hZ (y := (⟨"com/example/shardloom/shardloom/Ties", "add", "(IJ)V"⟩ : MethodName)) (z := (⟨"com/example/shardloom/shardloom/Ties", "add", "(IJ)V"⟩ : MethodName)) hown (hw _ (List.mem_of_getElem? (i := 30) rfl)) (hw _ (List.mem_of_getElem? (i := 31) rfl)) (notFace_of_selects (args := #[]) (mvT hZ (hw _ (List.mem_of_getElem? (i := 33) rfl)))) (hw _ (List.mem_of_getElem? (i := 33) rfl)) (hw _ (List.mem_of_getElem? (i := 32) rfl)) (hw _ (List.mem_of_getElem? (i := 2) rfl)) (hw _ (List.mem_of_getElem? (i := 34) rfl)) (by decide) e3 O3.1 (argsL := [(.int ((own_iushr x0 (10 : Int32)) &&& (3 : Int32))), (.long x4)]) (met5 l Z a0 hw o ((own_iushr x0 (10 : Int32)) &&& (3 : Int32)) x4 (1 : Int32) a1 a2 a3 (own_aw (fun _ => (0 : Int64)) ((own_iushr x0 (8 : Int32)) &&& (3 : Int32)).toInt.toNat x3) (own_ak K (fun _ => (0 : Int32)) ((own_iushr x0 (8 : Int32)) &&& (3 : Int32)).toInt.toNat 0 ((own_iushr x0 (8 : Int32)) &&& (3 : Int32))) (own_ab (fun _ => (0 : Int32)) ((own_iushr x0 (8 : Int32)) &&& (3 : Int32)).toInt.toNat) ((own_iushr x0 (10 : Int32)) &&& (3 : Int32)).toInt.toNat 1 h3 n0 Z3 O3 (own_k3 _).1 (own_k3 _).2 (by decide) (by decide)) (W := 0) (by decide) (by decide) (by decide) (by decide) (by rw [hml]; rfl) pd_5 rfl (rest := []) rfl (Nat.le_of_eq rfl) (hb hby at_140) ?_
  intro v4 T4 h4 L4 X4 e4 q4
  obtain ⟨rfl, N4q, Z4, O4⟩ := q4
  have N4 := Fr.app N3 N4q
  show own_Fin _ _ _ _ _ _ _ (T4.setTop (mkF m 143 #[.val (.int x0), .val (.long x1), .second, .val (.long x2), .second, .val (.long x3), .second, .val (.long x4), .second, .val (.ref o), .val (.int (x0 &&& (3 : Int32))), .val (.int ((own_iushr x0 (2 : Int32)) &&& (3 : Int32))), .val (.int ((own_iushr x0 (4 : Int32)) &&& (3 : Int32))), .val (.int ((own_iushr x0 (6 : Int32)) &&& (3 : Int32))), .val (.int ((own_iushr x0 (8 : Int32)) &&& (3 : Int32))), .val (.int ((own_iushr x0 (10 : Int32)) &&& (3 : Int32))), .val (.int ((own_iushr x0 (12 : Int32)) &&& (3 : Int32))), .val (.int (1 : Int32)), .unset, .unset, .unset, .unset] []))
  refine own_of (fun _ kk => XS.iload X4.here hx rfl (hb hby at_143) rfl kk) ?_
  show own_Fin _ _ _ _ _ _ _ (T4.setTop (mkF m 145 #[.val (.int x0), .val (.long x1), .second, .val (.long x2), .second, .val (.long x3), .second, .val (.long x4), .second, .val (.ref o), .val (.int (x0 &&& (3 : Int32))), .val (.int ((own_iushr x0 (2 : Int32)) &&& (3 : Int32))), .val (.int ((own_iushr x0 (4 : Int32)) &&& (3 : Int32))), .val (.int ((own_iushr x0 (6 : Int32)) &&& (3 : Int32))), .val (.int ((own_iushr x0 (8 : Int32)) &&& (3 : Int32))), .val (.int ((own_iushr x0 (10 : Int32)) &&& (3 : Int32))), .val (.int ((own_iushr x0 (12 : Int32)) &&& (3 : Int32))), .val (.int (1 : Int32)), .unset, .unset, .unset, .unset] [(.int ((own_iushr x0 (8 : Int32)) &&& (3 : Int32)))]))
  refine own_of (fun _ kk => XS.iload X4.here hx rfl (hb hby at_145) rfl kk) ?_
  show own_Fin _ _ _ _ _ _ _ (T4.setTop (mkF m 147 #[.val (.int x0), .val (.long x1), .second, .val (.long x2), .second, .val (.long x3), .second, .val (.long x4), .second, .val (.ref o), .val (.int (x0 &&& (3 : Int32))), .val (.int ((own_iushr x0 (2 : Int32)) &&& (3 : Int32))), .val (.int ((own_iushr x0 (4 : Int32)) &&& (3 : Int32))), .val (.int ((own_iushr x0 (6 : Int32)) &&& (3 : Int32))), .val (.int ((own_iushr x0 (8 : Int32)) &&& (3 : Int32))), .val (.int ((own_iushr x0 (10 : Int32)) &&& (3 : Int32))), .val (.int ((own_iushr x0 (12 : Int32)) &&& (3 : Int32))), .val (.int (1 : Int32)), .unset, .unset, .unset, .unset] [(.int ((own_iushr x0 (10 : Int32)) &&& (3 : Int32))), (.int ((own_iushr x0 (8 : Int32)) &&& (3 : Int32)))]))
  by_cases c147 : ((own_iushr x0 (8 : Int32)) &&& (3 : Int32)) = ((own_iushr x0 (10 : Int32)) &&& (3 : Int32))
  · refine own_of (fun _ kk => XS.icmpNo X4.here hx rfl (hb hby at_147) rfl (teq c147).2 kk) ?_
    show own_Fin _ _ _ _ _ _ _ (T4.setTop (mkF m 150 #[.val (.int x0), .val (.long x1), .second, .val (.long x2), .second, .val (.long x3), .second, .val (.long x4), .second, .val (.ref o), .val (.int (x0 &&& (3 : Int32))), .val (.int ((own_iushr x0 (2 : Int32)) &&& (3 : Int32))), .val (.int ((own_iushr x0 (4 : Int32)) &&& (3 : Int32))), .val (.int ((own_iushr x0 (6 : Int32)) &&& (3 : Int32))), .val (.int ((own_iushr x0 (8 : Int32)) &&& (3 : Int32))), .val (.int ((own_iushr x0 (10 : Int32)) &&& (3 : Int32))), .val (.int ((own_iushr x0 (12 : Int32)) &&& (3 : Int32))), .val (.int (1 : Int32)), .unset, .unset, .unset, .unset] []))
    refine own_of (fun _ kk => XS.lload X4.here hx rfl (hb hby at_150) rfl kk) ?_
    show own_Fin _ _ _ _ _ _ _ (T4.setTop (mkF m 152 #[.val (.int x0), .val (.long x1), .second, .val (.long x2), .second, .val (.long x3), .second, .val (.long x4), .second, .val (.ref o), .val (.int (x0 &&& (3 : Int32))), .val (.int ((own_iushr x0 (2 : Int32)) &&& (3 : Int32))), .val (.int ((own_iushr x0 (4 : Int32)) &&& (3 : Int32))), .val (.int ((own_iushr x0 (6 : Int32)) &&& (3 : Int32))), .val (.int ((own_iushr x0 (8 : Int32)) &&& (3 : Int32))), .val (.int ((own_iushr x0 (10 : Int32)) &&& (3 : Int32))), .val (.int ((own_iushr x0 (12 : Int32)) &&& (3 : Int32))), .val (.int (1 : Int32)), .unset, .unset, .unset, .unset] [(.long x3)]))
    refine own_of (fun _ kk => XS.lload X4.here hx rfl (hb hby at_152) rfl kk) ?_
    show own_Fin _ _ _ _ _ _ _ (T4.setTop (mkF m 154 #[.val (.int x0), .val (.long x1), .second, .val (.long x2), .second, .val (.long x3), .second, .val (.long x4), .second, .val (.ref o), .val (.int (x0 &&& (3 : Int32))), .val (.int ((own_iushr x0 (2 : Int32)) &&& (3 : Int32))), .val (.int ((own_iushr x0 (4 : Int32)) &&& (3 : Int32))), .val (.int ((own_iushr x0 (6 : Int32)) &&& (3 : Int32))), .val (.int ((own_iushr x0 (8 : Int32)) &&& (3 : Int32))), .val (.int ((own_iushr x0 (10 : Int32)) &&& (3 : Int32))), .val (.int ((own_iushr x0 (12 : Int32)) &&& (3 : Int32))), .val (.int (1 : Int32)), .unset, .unset, .unset, .unset] [(.long x4), (.long x3)]))
    refine own_of (fun _ kk => XS.ladd X4.here hx rfl (hb hby at_154) rfl kk) ?_
    show own_Fin _ _ _ _ _ _ _ (T4.setTop (mkF m 155 #[.val (.int x0), .val (.long x1), .second, .val (.long x2), .second, .val (.long x3), .second, .val (.long x4), .second, .val (.ref o), .val (.int (x0 &&& (3 : Int32))), .val (.int ((own_iushr x0 (2 : Int32)) &&& (3 : Int32))), .val (.int ((own_iushr x0 (4 : Int32)) &&& (3 : Int32))), .val (.int ((own_iushr x0 (6 : Int32)) &&& (3 : Int32))), .val (.int ((own_iushr x0 (8 : Int32)) &&& (3 : Int32))), .val (.int ((own_iushr x0 (10 : Int32)) &&& (3 : Int32))), .val (.int ((own_iushr x0 (12 : Int32)) &&& (3 : Int32))), .val (.int (1 : Int32)), .unset, .unset, .unset, .unset] [(.long (x3 + x4))]))
    refine own_of (fun _ kk => XS.lstore X4.here hx rfl (hb hby at_155) rfl (l' := #[.val (.int x0), .val (.long x1), .second, .val (.long x2), .second, .val (.long x3), .second, .val (.long x4), .second, .val (.ref o), .val (.int (x0 &&& (3 : Int32))), .val (.int ((own_iushr x0 (2 : Int32)) &&& (3 : Int32))), .val (.int ((own_iushr x0 (4 : Int32)) &&& (3 : Int32))), .val (.int ((own_iushr x0 (6 : Int32)) &&& (3 : Int32))), .val (.int ((own_iushr x0 (8 : Int32)) &&& (3 : Int32))), .val (.int ((own_iushr x0 (10 : Int32)) &&& (3 : Int32))), .val (.int ((own_iushr x0 (12 : Int32)) &&& (3 : Int32))), .val (.int (1 : Int32)), .val (.long (x3 + x4)), .second, .unset, .unset]) rfl kk) ?_
    show own_Fin _ _ _ _ _ _ _ (T4.setTop (mkF m 157 #[.val (.int x0), .val (.long x1), .second, .val (.long x2), .second, .val (.long x3), .second, .val (.long x4), .second, .val (.ref o), .val (.int (x0 &&& (3 : Int32))), .val (.int ((own_iushr x0 (2 : Int32)) &&& (3 : Int32))), .val (.int ((own_iushr x0 (4 : Int32)) &&& (3 : Int32))), .val (.int ((own_iushr x0 (6 : Int32)) &&& (3 : Int32))), .val (.int ((own_iushr x0 (8 : Int32)) &&& (3 : Int32))), .val (.int ((own_iushr x0 (10 : Int32)) &&& (3 : Int32))), .val (.int ((own_iushr x0 (12 : Int32)) &&& (3 : Int32))), .val (.int (1 : Int32)), .val (.long (x3 + x4)), .second, .unset, .unset] []))
    refine own_of (fun _ kk => XS.iload X4.here hx rfl (hb hby at_157) rfl kk) ?_
    show own_Fin _ _ _ _ _ _ _ (T4.setTop (mkF m 159 #[.val (.int x0), .val (.long x1), .second, .val (.long x2), .second, .val (.long x3), .second, .val (.long x4), .second, .val (.ref o), .val (.int (x0 &&& (3 : Int32))), .val (.int ((own_iushr x0 (2 : Int32)) &&& (3 : Int32))), .val (.int ((own_iushr x0 (4 : Int32)) &&& (3 : Int32))), .val (.int ((own_iushr x0 (6 : Int32)) &&& (3 : Int32))), .val (.int ((own_iushr x0 (8 : Int32)) &&& (3 : Int32))), .val (.int ((own_iushr x0 (10 : Int32)) &&& (3 : Int32))), .val (.int ((own_iushr x0 (12 : Int32)) &&& (3 : Int32))), .val (.int (1 : Int32)), .val (.long (x3 + x4)), .second, .unset, .unset] [(.int ((own_iushr x0 (12 : Int32)) &&& (3 : Int32)))]))
    refine own_of (fun _ kk => XS.iload X4.here hx rfl (hb hby at_159) rfl kk) ?_
    show own_Fin _ _ _ _ _ _ _ (T4.setTop (mkF m 161 #[.val (.int x0), .val (.long x1), .second, .val (.long x2), .second, .val (.long x3), .second, .val (.long x4), .second, .val (.ref o), .val (.int (x0 &&& (3 : Int32))), .val (.int ((own_iushr x0 (2 : Int32)) &&& (3 : Int32))), .val (.int ((own_iushr x0 (4 : Int32)) &&& (3 : Int32))), .val (.int ((own_iushr x0 (6 : Int32)) &&& (3 : Int32))), .val (.int ((own_iushr x0 (8 : Int32)) &&& (3 : Int32))), .val (.int ((own_iushr x0 (10 : Int32)) &&& (3 : Int32))), .val (.int ((own_iushr x0 (12 : Int32)) &&& (3 : Int32))), .val (.int (1 : Int32)), .val (.long (x3 + x4)), .second, .unset, .unset] [(.int ((own_iushr x0 (8 : Int32)) &&& (3 : Int32))), (.int ((own_iushr x0 (12 : Int32)) &&& (3 : Int32)))]))
    suffices k5 : own_Fin _ _ _ _ _ _ _ (T4.setTop (mkF m 170 #[.val (.int x0), .val (.long x1), .second, .val (.long x2), .second, .val (.long x3), .second, .val (.long x4), .second, .val (.ref o), .val (.int (x0 &&& (3 : Int32))), .val (.int ((own_iushr x0 (2 : Int32)) &&& (3 : Int32))), .val (.int ((own_iushr x0 (4 : Int32)) &&& (3 : Int32))), .val (.int ((own_iushr x0 (6 : Int32)) &&& (3 : Int32))), .val (.int ((own_iushr x0 (8 : Int32)) &&& (3 : Int32))), .val (.int ((own_iushr x0 (10 : Int32)) &&& (3 : Int32))), .val (.int ((own_iushr x0 (12 : Int32)) &&& (3 : Int32))), .val (.int (1 : Int32)), .val (.long (x3 + x4)), .second, .unset, .unset] [(.long (own_m0_170a x0 x3 x4))])) by
      by_cases c161 : ((own_iushr x0 (12 : Int32)) &&& (3 : Int32)) = ((own_iushr x0 (8 : Int32)) &&& (3 : Int32))
      · refine own_of (fun _ kk => XS.icmpNo X4.here hx rfl (hb hby at_161) rfl (teq c161).2 kk) ?_
        show own_Fin _ _ _ _ _ _ _ (T4.setTop (mkF m 164 #[.val (.int x0), .val (.long x1), .second, .val (.long x2), .second, .val (.long x3), .second, .val (.long x4), .second, .val (.ref o), .val (.int (x0 &&& (3 : Int32))), .val (.int ((own_iushr x0 (2 : Int32)) &&& (3 : Int32))), .val (.int ((own_iushr x0 (4 : Int32)) &&& (3 : Int32))), .val (.int ((own_iushr x0 (6 : Int32)) &&& (3 : Int32))), .val (.int ((own_iushr x0 (8 : Int32)) &&& (3 : Int32))), .val (.int ((own_iushr x0 (10 : Int32)) &&& (3 : Int32))), .val (.int ((own_iushr x0 (12 : Int32)) &&& (3 : Int32))), .val (.int (1 : Int32)), .val (.long (x3 + x4)), .second, .unset, .unset] []))
        refine own_of (fun _ kk => XS.lload X4.here hx rfl (hb hby at_164) rfl kk) ?_
        show own_Fin _ _ _ _ _ _ _ (T4.setTop (mkF m 166 #[.val (.int x0), .val (.long x1), .second, .val (.long x2), .second, .val (.long x3), .second, .val (.long x4), .second, .val (.ref o), .val (.int (x0 &&& (3 : Int32))), .val (.int ((own_iushr x0 (2 : Int32)) &&& (3 : Int32))), .val (.int ((own_iushr x0 (4 : Int32)) &&& (3 : Int32))), .val (.int ((own_iushr x0 (6 : Int32)) &&& (3 : Int32))), .val (.int ((own_iushr x0 (8 : Int32)) &&& (3 : Int32))), .val (.int ((own_iushr x0 (10 : Int32)) &&& (3 : Int32))), .val (.int ((own_iushr x0 (12 : Int32)) &&& (3 : Int32))), .val (.int (1 : Int32)), .val (.long (x3 + x4)), .second, .unset, .unset] [(.long (x3 + x4))]))
        refine own_of (fun _ kk => XS.goto X4.here hx rfl (pc0 := 166) (pc' := 170) rfl (hb hby at_166) (by decide) (by decide) kk) ?_
        show own_Fin _ _ _ _ _ _ _ (T4.setTop (mkF m 170 #[.val (.int x0), .val (.long x1), .second, .val (.long x2), .second, .val (.long x3), .second, .val (.long x4), .second, .val (.ref o), .val (.int (x0 &&& (3 : Int32))), .val (.int ((own_iushr x0 (2 : Int32)) &&& (3 : Int32))), .val (.int ((own_iushr x0 (4 : Int32)) &&& (3 : Int32))), .val (.int ((own_iushr x0 (6 : Int32)) &&& (3 : Int32))), .val (.int ((own_iushr x0 (8 : Int32)) &&& (3 : Int32))), .val (.int ((own_iushr x0 (10 : Int32)) &&& (3 : Int32))), .val (.int ((own_iushr x0 (12 : Int32)) &&& (3 : Int32))), .val (.int (1 : Int32)), .val (.long (x3 + x4)), .second, .unset, .unset] [(.long (x3 + x4))]))
        simp only [own_m0_170a, if_pos c161] at k5 ⊢
        exact k5
      · refine own_of (fun _ kk => XS.icmpYes X4.here hx rfl (pc0 := 161) (pc' := 169) rfl (hb hby at_161) rfl (feq c161).2 (by decide) (by decide) kk) ?_
        show own_Fin _ _ _ _ _ _ _ (T4.setTop (mkF m 169 #[.val (.int x0), .val (.long x1), .second, .val (.long x2), .second, .val (.long x3), .second, .val (.long x4), .second, .val (.ref o), .val (.int (x0 &&& (3 : Int32))), .val (.int ((own_iushr x0 (2 : Int32)) &&& (3 : Int32))), .val (.int ((own_iushr x0 (4 : Int32)) &&& (3 : Int32))), .val (.int ((own_iushr x0 (6 : Int32)) &&& (3 : Int32))), .val (.int ((own_iushr x0 (8 : Int32)) &&& (3 : Int32))), .val (.int ((own_iushr x0 (10 : Int32)) &&& (3 : Int32))), .val (.int ((own_iushr x0 (12 : Int32)) &&& (3 : Int32))), .val (.int (1 : Int32)), .val (.long (x3 + x4)), .second, .unset, .unset] []))
        refine own_of (fun _ kk => XS.lconst X4.here hx rfl (hb hby at_169) kk) ?_
        show own_Fin _ _ _ _ _ _ _ (T4.setTop (mkF m 170 #[.val (.int x0), .val (.long x1), .second, .val (.long x2), .second, .val (.long x3), .second, .val (.long x4), .second, .val (.ref o), .val (.int (x0 &&& (3 : Int32))), .val (.int ((own_iushr x0 (2 : Int32)) &&& (3 : Int32))), .val (.int ((own_iushr x0 (4 : Int32)) &&& (3 : Int32))), .val (.int ((own_iushr x0 (6 : Int32)) &&& (3 : Int32))), .val (.int ((own_iushr x0 (8 : Int32)) &&& (3 : Int32))), .val (.int ((own_iushr x0 (10 : Int32)) &&& (3 : Int32))), .val (.int ((own_iushr x0 (12 : Int32)) &&& (3 : Int32))), .val (.int (1 : Int32)), .val (.long (x3 + x4)), .second, .unset, .unset] [(.long (0 : Int64))]))
        simp only [own_m0_170a, if_neg c161] at k5 ⊢
        exact k5
    show own_Fin _ _ _ _ _ _ _ (T4.setTop (mkF m 170 #[.val (.int x0), .val (.long x1), .second, .val (.long x2), .second, .val (.long x3), .second, .val (.long x4), .second, .val (.ref o), .val (.int (x0 &&& (3 : Int32))), .val (.int ((own_iushr x0 (2 : Int32)) &&& (3 : Int32))), .val (.int ((own_iushr x0 (4 : Int32)) &&& (3 : Int32))), .val (.int ((own_iushr x0 (6 : Int32)) &&& (3 : Int32))), .val (.int ((own_iushr x0 (8 : Int32)) &&& (3 : Int32))), .val (.int ((own_iushr x0 (10 : Int32)) &&& (3 : Int32))), .val (.int ((own_iushr x0 (12 : Int32)) &&& (3 : Int32))), .val (.int (1 : Int32)), .val (.long (x3 + x4)), .second, .unset, .unset] [(.long (own_m0_170a x0 x3 x4))]))
    refine own_of (fun _ kk => XS.lstore X4.here hx rfl (hb hby at_170) rfl (l' := #[.val (.int x0), .val (.long x1), .second, .val (.long x2), .second, .val (.long x3), .second, .val (.long x4), .second, .val (.ref o), .val (.int (x0 &&& (3 : Int32))), .val (.int ((own_iushr x0 (2 : Int32)) &&& (3 : Int32))), .val (.int ((own_iushr x0 (4 : Int32)) &&& (3 : Int32))), .val (.int ((own_iushr x0 (6 : Int32)) &&& (3 : Int32))), .val (.int ((own_iushr x0 (8 : Int32)) &&& (3 : Int32))), .val (.int ((own_iushr x0 (10 : Int32)) &&& (3 : Int32))), .val (.int ((own_iushr x0 (12 : Int32)) &&& (3 : Int32))), .val (.int (1 : Int32)), .val (.long (x3 + x4)), .second, .val (.long (own_m0_170a x0 x3 x4)), .second]) rfl kk) ?_
    show own_Fin _ _ _ _ _ _ _ (T4.setTop (mkF m 172 #[.val (.int x0), .val (.long x1), .second, .val (.long x2), .second, .val (.long x3), .second, .val (.long x4), .second, .val (.ref o), .val (.int (x0 &&& (3 : Int32))), .val (.int ((own_iushr x0 (2 : Int32)) &&& (3 : Int32))), .val (.int ((own_iushr x0 (4 : Int32)) &&& (3 : Int32))), .val (.int ((own_iushr x0 (6 : Int32)) &&& (3 : Int32))), .val (.int ((own_iushr x0 (8 : Int32)) &&& (3 : Int32))), .val (.int ((own_iushr x0 (10 : Int32)) &&& (3 : Int32))), .val (.int ((own_iushr x0 (12 : Int32)) &&& (3 : Int32))), .val (.int (1 : Int32)), .val (.long (x3 + x4)), .second, .val (.long (own_m0_170a x0 x3 x4)), .second] []))
    refine own_of (fun _ kk => XS.iload X4.here hx rfl (hb hby at_172) rfl kk) ?_
    show own_Fin _ _ _ _ _ _ _ (T4.setTop (mkF m 174 #[.val (.int x0), .val (.long x1), .second, .val (.long x2), .second, .val (.long x3), .second, .val (.long x4), .second, .val (.ref o), .val (.int (x0 &&& (3 : Int32))), .val (.int ((own_iushr x0 (2 : Int32)) &&& (3 : Int32))), .val (.int ((own_iushr x0 (4 : Int32)) &&& (3 : Int32))), .val (.int ((own_iushr x0 (6 : Int32)) &&& (3 : Int32))), .val (.int ((own_iushr x0 (8 : Int32)) &&& (3 : Int32))), .val (.int ((own_iushr x0 (10 : Int32)) &&& (3 : Int32))), .val (.int ((own_iushr x0 (12 : Int32)) &&& (3 : Int32))), .val (.int (1 : Int32)), .val (.long (x3 + x4)), .second, .val (.long (own_m0_170a x0 x3 x4)), .second] [(.int (1 : Int32))]))
    refine own_of (fun _ kk => XS.ifNo X4.here hx rfl (hb hby at_174) rfl ((if0 _ _).trans (feq (by decide : ¬ ((1 : Int32) = (0 : Int32)))).1) kk) ?_
    show own_Fin _ _ _ _ _ _ _ (T4.setTop (mkF m 177 #[.val (.int x0), .val (.long x1), .second, .val (.long x2), .second, .val (.long x3), .second, .val (.long x4), .second, .val (.ref o), .val (.int (x0 &&& (3 : Int32))), .val (.int ((own_iushr x0 (2 : Int32)) &&& (3 : Int32))), .val (.int ((own_iushr x0 (4 : Int32)) &&& (3 : Int32))), .val (.int ((own_iushr x0 (6 : Int32)) &&& (3 : Int32))), .val (.int ((own_iushr x0 (8 : Int32)) &&& (3 : Int32))), .val (.int ((own_iushr x0 (10 : Int32)) &&& (3 : Int32))), .val (.int ((own_iushr x0 (12 : Int32)) &&& (3 : Int32))), .val (.int (1 : Int32)), .val (.long (x3 + x4)), .second, .val (.long (own_m0_170a x0 x3 x4)), .second] []))
    refine own_of (fun _ kk => XS.aload X4.here hx rfl (hb hby at_177) rfl rfl kk) ?_
    show own_Fin _ _ _ _ _ _ _ (T4.setTop (mkF m 179 #[.val (.int x0), .val (.long x1), .second, .val (.long x2), .second, .val (.long x3), .second, .val (.long x4), .second, .val (.ref o), .val (.int (x0 &&& (3 : Int32))), .val (.int ((own_iushr x0 (2 : Int32)) &&& (3 : Int32))), .val (.int ((own_iushr x0 (4 : Int32)) &&& (3 : Int32))), .val (.int ((own_iushr x0 (6 : Int32)) &&& (3 : Int32))), .val (.int ((own_iushr x0 (8 : Int32)) &&& (3 : Int32))), .val (.int ((own_iushr x0 (10 : Int32)) &&& (3 : Int32))), .val (.int ((own_iushr x0 (12 : Int32)) &&& (3 : Int32))), .val (.int (1 : Int32)), .val (.long (x3 + x4)), .second, .val (.long (own_m0_170a x0 x3 x4)), .second] [(.ref o)]))
    refine own_callV X4 hx hZ (y := (⟨"com/example/shardloom/shardloom/Ties", "count", "()I"⟩ : MethodName)) (z := (⟨"com/example/shardloom/shardloom/Ties", "count", "()I"⟩ : MethodName)) hown (hw _ (List.mem_of_getElem? (i := 25) rfl)) (hw _ (List.mem_of_getElem? (i := 26) rfl)) (notFace_of_selects (args := #[]) (mvT hZ (hw _ (List.mem_of_getElem? (i := 28) rfl)))) (hw _ (List.mem_of_getElem? (i := 28) rfl)) (hw _ (List.mem_of_getElem? (i := 27) rfl)) (hw _ (List.mem_of_getElem? (i := 2) rfl)) (hw _ (List.mem_of_getElem? (i := 29) rfl)) (by decide) e4 O4.1 (argsL := []) (met4 l Z a0 hw o (own_ac (1 : Int32) (own_ab (fun _ => (0 : Int32)) ((own_iushr x0 (8 : Int32)) &&& (3 : Int32)).toInt.toNat) ((own_iushr x0 (10 : Int32)) &&& (3 : Int32)).toInt.toNat) a1 a2 a3 (own_aw (own_aw (fun _ => (0 : Int64)) ((own_iushr x0 (8 : Int32)) &&& (3 : Int32)).toInt.toNat x3) ((own_iushr x0 (10 : Int32)) &&& (3 : Int32)).toInt.toNat x4) (own_ak (own_ak K (fun _ => (0 : Int32)) ((own_iushr x0 (8 : Int32)) &&& (3 : Int32)).toInt.toNat 0 ((own_iushr x0 (8 : Int32)) &&& (3 : Int32))) (own_ab (fun _ => (0 : Int32)) ((own_iushr x0 (8 : Int32)) &&& (3 : Int32)).toInt.toNat) ((own_iushr x0 (10 : Int32)) &&& (3 : Int32)).toInt.toNat 1 ((own_iushr x0 (10 : Int32)) &&& (3 : Int32))) (own_ab (own_ab (fun _ => (0 : Int32)) ((own_iushr x0 (8 : Int32)) &&& (3 : Int32)).toInt.toNat) ((own_iushr x0 (10 : Int32)) &&& (3 : Int32)).toInt.toNat) h4 n0 Z4 O4) (W := 0) (by decide) (by decide) (by decide) (by decide) (by rw [hml]; rfl) pd_0 rfl (rest := []) rfl (Nat.le_of_eq rfl) (hb hby at_179) ?_
    intro v6 T6 h6 L6 X6 e6 q6
    obtain ⟨rfl, qh6, rfl⟩ := q6
    rw [qh6] at e6
    have N6 := Fr.app N4 (Fr.nil n0)
    show own_Fin _ _ _ _ _ _ _ (T6.setTop (mkF m 182 #[.val (.int x0), .val (.long x1), .second, .val (.long x2), .second, .val (.long x3), .second, .val (.long x4), .second, .val (.ref o), .val (.int (x0 &&& (3 : Int32))), .val (.int ((own_iushr x0 (2 : Int32)) &&& (3 : Int32))), .val (.int ((own_iushr x0 (4 : Int32)) &&& (3 : Int32))), .val (.int ((own_iushr x0 (6 : Int32)) &&& (3 : Int32))), .val (.int ((own_iushr x0 (8 : Int32)) &&& (3 : Int32))), .val (.int ((own_iushr x0 (10 : Int32)) &&& (3 : Int32))), .val (.int ((own_iushr x0 (12 : Int32)) &&& (3 : Int32))), .val (.int (1 : Int32)), .val (.long (x3 + x4)), .second, .val (.long (own_m0_170a x0 x3 x4)), .second] [(.int (own_ac (1 : Int32) (own_ab (fun _ => (0 : Int32)) ((own_iushr x0 (8 : Int32)) &&& (3 : Int32)).toInt.toNat) ((own_iushr x0 (10 : Int32)) &&& (3 : Int32)).toInt.toNat))]))
    refine own_of (fun _ kk => XS.iconst X6.here hx rfl (hb hby at_182) kk) ?_
    show own_Fin _ _ _ _ _ _ _ (T6.setTop (mkF m 183 #[.val (.int x0), .val (.long x1), .second, .val (.long x2), .second, .val (.long x3), .second, .val (.long x4), .second, .val (.ref o), .val (.int (x0 &&& (3 : Int32))), .val (.int ((own_iushr x0 (2 : Int32)) &&& (3 : Int32))), .val (.int ((own_iushr x0 (4 : Int32)) &&& (3 : Int32))), .val (.int ((own_iushr x0 (6 : Int32)) &&& (3 : Int32))), .val (.int ((own_iushr x0 (8 : Int32)) &&& (3 : Int32))), .val (.int ((own_iushr x0 (10 : Int32)) &&& (3 : Int32))), .val (.int ((own_iushr x0 (12 : Int32)) &&& (3 : Int32))), .val (.int (1 : Int32)), .val (.long (x3 + x4)), .second, .val (.long (own_m0_170a x0 x3 x4)), .second] [(.int (1 : Int32)), (.int (own_ac (1 : Int32) (own_ab (fun _ => (0 : Int32)) ((own_iushr x0 (8 : Int32)) &&& (3 : Int32)).toInt.toNat) ((own_iushr x0 (10 : Int32)) &&& (3 : Int32)).toInt.toNat))]))
    refine own_of (fun _ kk => XS.icmpNo X6.here hx rfl (hb hby at_183) rfl (teq (own_ct1 x0 x3 x4 K c147)).2 kk) ?_
    show own_Fin _ _ _ _ _ _ _ (T6.setTop (mkF m 186 #[.val (.int x0), .val (.long x1), .second, .val (.long x2), .second, .val (.long x3), .second, .val (.long x4), .second, .val (.ref o), .val (.int (x0 &&& (3 : Int32))), .val (.int ((own_iushr x0 (2 : Int32)) &&& (3 : Int32))), .val (.int ((own_iushr x0 (4 : Int32)) &&& (3 : Int32))), .val (.int ((own_iushr x0 (6 : Int32)) &&& (3 : Int32))), .val (.int ((own_iushr x0 (8 : Int32)) &&& (3 : Int32))), .val (.int ((own_iushr x0 (10 : Int32)) &&& (3 : Int32))), .val (.int ((own_iushr x0 (12 : Int32)) &&& (3 : Int32))), .val (.int (1 : Int32)), .val (.long (x3 + x4)), .second, .val (.long (own_m0_170a x0 x3 x4)), .second] []))
    refine own_of (fun _ kk => XS.aload X6.here hx rfl (hb hby at_186) rfl rfl kk) ?_
    show own_Fin _ _ _ _ _ _ _ (T6.setTop (mkF m 188 #[.val (.int x0), .val (.long x1), .second, .val (.long x2), .second, .val (.long x3), .second, .val (.long x4), .second, .val (.ref o), .val (.int (x0 &&& (3 : Int32))), .val (.int ((own_iushr x0 (2 : Int32)) &&& (3 : Int32))), .val (.int ((own_iushr x0 (4 : Int32)) &&& (3 : Int32))), .val (.int ((own_iushr x0 (6 : Int32)) &&& (3 : Int32))), .val (.int ((own_iushr x0 (8 : Int32)) &&& (3 : Int32))), .val (.int ((own_iushr x0 (10 : Int32)) &&& (3 : Int32))), .val (.int ((own_iushr x0 (12 : Int32)) &&& (3 : Int32))), .val (.int (1 : Int32)), .val (.long (x3 + x4)), .second, .val (.long (own_m0_170a x0 x3 x4)), .second] [(.ref o)]))
    refine own_of (fun _ kk => XS.iconst X6.here hx rfl (hb hby at_188) kk) ?_
    show own_Fin _ _ _ _ _ _ _ (T6.setTop (mkF m 189 #[.val (.int x0), .val (.long x1), .second, .val (.long x2), .second, .val (.long x3), .second, .val (.long x4), .second, .val (.ref o), .val (.int (x0 &&& (3 : Int32))), .val (.int ((own_iushr x0 (2 : Int32)) &&& (3 : Int32))), .val (.int ((own_iushr x0 (4 : Int32)) &&& (3 : Int32))), .val (.int ((own_iushr x0 (6 : Int32)) &&& (3 : Int32))), .val (.int ((own_iushr x0 (8 : Int32)) &&& (3 : Int32))), .val (.int ((own_iushr x0 (10 : Int32)) &&& (3 : Int32))), .val (.int ((own_iushr x0 (12 : Int32)) &&& (3 : Int32))), .val (.int (1 : Int32)), .val (.long (x3 + x4)), .second, .val (.long (own_m0_170a x0 x3 x4)), .second] [(.int (0 : Int32)), (.ref o)]))
    refine own_callV X6 hx hZ (y := (⟨"com/example/shardloom/shardloom/Ties", "key", "(I)I"⟩ : MethodName)) (z := (⟨"com/example/shardloom/shardloom/Ties", "key", "(I)I"⟩ : MethodName)) hown (hw _ (List.mem_of_getElem? (i := 35) rfl)) (hw _ (List.mem_of_getElem? (i := 36) rfl)) (notFace_of_selects (args := #[]) (mvT hZ (hw _ (List.mem_of_getElem? (i := 38) rfl)))) (hw _ (List.mem_of_getElem? (i := 38) rfl)) (hw _ (List.mem_of_getElem? (i := 37) rfl)) (hw _ (List.mem_of_getElem? (i := 2) rfl)) (hw _ (List.mem_of_getElem? (i := 39) rfl)) (by decide) e6 O4.1 (argsL := [(.int (0 : Int32))]) (met6 l Z a0 hw o (0 : Int32) (own_ac (1 : Int32) (own_ab (fun _ => (0 : Int32)) ((own_iushr x0 (8 : Int32)) &&& (3 : Int32)).toInt.toNat) ((own_iushr x0 (10 : Int32)) &&& (3 : Int32)).toInt.toNat) a1 a2 a3 (own_aw (own_aw (fun _ => (0 : Int64)) ((own_iushr x0 (8 : Int32)) &&& (3 : Int32)).toInt.toNat x3) ((own_iushr x0 (10 : Int32)) &&& (3 : Int32)).toInt.toNat x4) (own_ak (own_ak K (fun _ => (0 : Int32)) ((own_iushr x0 (8 : Int32)) &&& (3 : Int32)).toInt.toNat 0 ((own_iushr x0 (8 : Int32)) &&& (3 : Int32))) (own_ab (fun _ => (0 : Int32)) ((own_iushr x0 (8 : Int32)) &&& (3 : Int32)).toInt.toNat) ((own_iushr x0 (10 : Int32)) &&& (3 : Int32)).toInt.toNat 1 ((own_iushr x0 (10 : Int32)) &&& (3 : Int32))) (own_ab (own_ab (fun _ => (0 : Int32)) ((own_iushr x0 (8 : Int32)) &&& (3 : Int32)).toInt.toNat) ((own_iushr x0 (10 : Int32)) &&& (3 : Int32)).toInt.toNat) 0 ((own_iushr x0 (8 : Int32)) &&& (3 : Int32)) h4 n0 Z4 O4 (by decide) (by decide) (own_q189 x0 x3 x4 K c147)) (W := 0) (by decide) (by decide) (by decide) (by decide) (by rw [hml]; rfl) pd_2 rfl (rest := []) rfl (Nat.le_of_eq rfl) (hb hby at_189) ?_
    intro v7 T7 h7 L7 X7 e7 q7
    obtain ⟨rfl, qh7, rfl⟩ := q7
    rw [qh7] at e7
    have N7 := Fr.app N6 (Fr.nil n0)
    show own_Fin _ _ _ _ _ _ _ (T7.setTop (mkF m 192 #[.val (.int x0), .val (.long x1), .second, .val (.long x2), .second, .val (.long x3), .second, .val (.long x4), .second, .val (.ref o), .val (.int (x0 &&& (3 : Int32))), .val (.int ((own_iushr x0 (2 : Int32)) &&& (3 : Int32))), .val (.int ((own_iushr x0 (4 : Int32)) &&& (3 : Int32))), .val (.int ((own_iushr x0 (6 : Int32)) &&& (3 : Int32))), .val (.int ((own_iushr x0 (8 : Int32)) &&& (3 : Int32))), .val (.int ((own_iushr x0 (10 : Int32)) &&& (3 : Int32))), .val (.int ((own_iushr x0 (12 : Int32)) &&& (3 : Int32))), .val (.int (1 : Int32)), .val (.long (x3 + x4)), .second, .val (.long (own_m0_170a x0 x3 x4)), .second] [(.int ((own_iushr x0 (8 : Int32)) &&& (3 : Int32)))]))
    refine own_of (fun _ kk => XS.iload X7.here hx rfl (hb hby at_192) rfl kk) ?_
    show own_Fin _ _ _ _ _ _ _ (T7.setTop (mkF m 194 #[.val (.int x0), .val (.long x1), .second, .val (.long x2), .second, .val (.long x3), .second, .val (.long x4), .second, .val (.ref o), .val (.int (x0 &&& (3 : Int32))), .val (.int ((own_iushr x0 (2 : Int32)) &&& (3 : Int32))), .val (.int ((own_iushr x0 (4 : Int32)) &&& (3 : Int32))), .val (.int ((own_iushr x0 (6 : Int32)) &&& (3 : Int32))), .val (.int ((own_iushr x0 (8 : Int32)) &&& (3 : Int32))), .val (.int ((own_iushr x0 (10 : Int32)) &&& (3 : Int32))), .val (.int ((own_iushr x0 (12 : Int32)) &&& (3 : Int32))), .val (.int (1 : Int32)), .val (.long (x3 + x4)), .second, .val (.long (own_m0_170a x0 x3 x4)), .second] [(.int ((own_iushr x0 (8 : Int32)) &&& (3 : Int32))), (.int ((own_iushr x0 (8 : Int32)) &&& (3 : Int32)))]))
    refine own_of (fun _ kk => XS.icmpNo X7.here hx rfl (hb hby at_194) rfl (teq rfl).2 kk) ?_
    show own_Fin _ _ _ _ _ _ _ (T7.setTop (mkF m 197 #[.val (.int x0), .val (.long x1), .second, .val (.long x2), .second, .val (.long x3), .second, .val (.long x4), .second, .val (.ref o), .val (.int (x0 &&& (3 : Int32))), .val (.int ((own_iushr x0 (2 : Int32)) &&& (3 : Int32))), .val (.int ((own_iushr x0 (4 : Int32)) &&& (3 : Int32))), .val (.int ((own_iushr x0 (6 : Int32)) &&& (3 : Int32))), .val (.int ((own_iushr x0 (8 : Int32)) &&& (3 : Int32))), .val (.int ((own_iushr x0 (10 : Int32)) &&& (3 : Int32))), .val (.int ((own_iushr x0 (12 : Int32)) &&& (3 : Int32))), .val (.int (1 : Int32)), .val (.long (x3 + x4)), .second, .val (.long (own_m0_170a x0 x3 x4)), .second] []))
    refine own_of (fun _ kk => XS.aload X7.here hx rfl (hb hby at_197) rfl rfl kk) ?_
    show own_Fin _ _ _ _ _ _ _ (T7.setTop (mkF m 199 #[.val (.int x0), .val (.long x1), .second, .val (.long x2), .second, .val (.long x3), .second, .val (.long x4), .second, .val (.ref o), .val (.int (x0 &&& (3 : Int32))), .val (.int ((own_iushr x0 (2 : Int32)) &&& (3 : Int32))), .val (.int ((own_iushr x0 (4 : Int32)) &&& (3 : Int32))), .val (.int ((own_iushr x0 (6 : Int32)) &&& (3 : Int32))), .val (.int ((own_iushr x0 (8 : Int32)) &&& (3 : Int32))), .val (.int ((own_iushr x0 (10 : Int32)) &&& (3 : Int32))), .val (.int ((own_iushr x0 (12 : Int32)) &&& (3 : Int32))), .val (.int (1 : Int32)), .val (.long (x3 + x4)), .second, .val (.long (own_m0_170a x0 x3 x4)), .second] [(.ref o)]))
    refine own_of (fun _ kk => XS.iload X7.here hx rfl (hb hby at_199) rfl kk) ?_
    show own_Fin _ _ _ _ _ _ _ (T7.setTop (mkF m 201 #[.val (.int x0), .val (.long x1), .second, .val (.long x2), .second, .val (.long x3), .second, .val (.long x4), .second, .val (.ref o), .val (.int (x0 &&& (3 : Int32))), .val (.int ((own_iushr x0 (2 : Int32)) &&& (3 : Int32))), .val (.int ((own_iushr x0 (4 : Int32)) &&& (3 : Int32))), .val (.int ((own_iushr x0 (6 : Int32)) &&& (3 : Int32))), .val (.int ((own_iushr x0 (8 : Int32)) &&& (3 : Int32))), .val (.int ((own_iushr x0 (10 : Int32)) &&& (3 : Int32))), .val (.int ((own_iushr x0 (12 : Int32)) &&& (3 : Int32))), .val (.int (1 : Int32)), .val (.long (x3 + x4)), .second, .val (.long (own_m0_170a x0 x3 x4)), .second] [(.int ((own_iushr x0 (8 : Int32)) &&& (3 : Int32))), (.ref o)]))
    refine own_callV X7 hx hZ (y := (⟨"com/example/shardloom/shardloom/Ties", "weight", "(I)J"⟩ : MethodName)) (z := (⟨"com/example/shardloom/shardloom/Ties", "weight", "(I)J"⟩ : MethodName)) hown (hw _ (List.mem_of_getElem? (i := 40) rfl)) (hw _ (List.mem_of_getElem? (i := 41) rfl)) (notFace_of_selects (args := #[]) (mvT hZ (hw _ (List.mem_of_getElem? (i := 43) rfl)))) (hw _ (List.mem_of_getElem? (i := 43) rfl)) (hw _ (List.mem_of_getElem? (i := 42) rfl)) (hw _ (List.mem_of_getElem? (i := 2) rfl)) (hw _ (List.mem_of_getElem? (i := 44) rfl)) (by decide) e7 O4.1 (argsL := [(.int ((own_iushr x0 (8 : Int32)) &&& (3 : Int32)))]) (met7 l Z a0 hw o ((own_iushr x0 (8 : Int32)) &&& (3 : Int32)) (own_ac (1 : Int32) (own_ab (fun _ => (0 : Int32)) ((own_iushr x0 (8 : Int32)) &&& (3 : Int32)).toInt.toNat) ((own_iushr x0 (10 : Int32)) &&& (3 : Int32)).toInt.toNat) a1 a2 a3 (own_aw (own_aw (fun _ => (0 : Int64)) ((own_iushr x0 (8 : Int32)) &&& (3 : Int32)).toInt.toNat x3) ((own_iushr x0 (10 : Int32)) &&& (3 : Int32)).toInt.toNat x4) (own_ak (own_ak K (fun _ => (0 : Int32)) ((own_iushr x0 (8 : Int32)) &&& (3 : Int32)).toInt.toNat 0 ((own_iushr x0 (8 : Int32)) &&& (3 : Int32))) (own_ab (fun _ => (0 : Int32)) ((own_iushr x0 (8 : Int32)) &&& (3 : Int32)).toInt.toNat) ((own_iushr x0 (10 : Int32)) &&& (3 : Int32)).toInt.toNat 1 ((own_iushr x0 (10 : Int32)) &&& (3 : Int32))) (own_ab (own_ab (fun _ => (0 : Int32)) ((own_iushr x0 (8 : Int32)) &&& (3 : Int32)).toInt.toNat) ((own_iushr x0 (10 : Int32)) &&& (3 : Int32)).toInt.toNat) ((own_iushr x0 (8 : Int32)) &&& (3 : Int32)).toInt.toNat (x3 + x4) h4 n0 Z4 O4 (own_k3 _).1 (own_k3 _).2 (own_q201 x0 x3 x4 K c147)) (W := 0) (by decide) (by decide) (by decide) (by decide) (by rw [hml]; rfl) pd_3 rfl (rest := []) rfl (Nat.le_of_eq rfl) (hb hby at_201) ?_
    intro v8 T8 h8 L8 X8 e8 q8
    obtain ⟨rfl, qh8, rfl⟩ := q8
    rw [qh8] at e8
    have N8 := Fr.app N7 (Fr.nil n0)
    show own_Fin _ _ _ _ _ _ _ (T8.setTop (mkF m 204 #[.val (.int x0), .val (.long x1), .second, .val (.long x2), .second, .val (.long x3), .second, .val (.long x4), .second, .val (.ref o), .val (.int (x0 &&& (3 : Int32))), .val (.int ((own_iushr x0 (2 : Int32)) &&& (3 : Int32))), .val (.int ((own_iushr x0 (4 : Int32)) &&& (3 : Int32))), .val (.int ((own_iushr x0 (6 : Int32)) &&& (3 : Int32))), .val (.int ((own_iushr x0 (8 : Int32)) &&& (3 : Int32))), .val (.int ((own_iushr x0 (10 : Int32)) &&& (3 : Int32))), .val (.int ((own_iushr x0 (12 : Int32)) &&& (3 : Int32))), .val (.int (1 : Int32)), .val (.long (x3 + x4)), .second, .val (.long (own_m0_170a x0 x3 x4)), .second] [(.long (x3 + x4))]))
    refine own_of (fun _ kk => XS.lload X8.here hx rfl (hb hby at_204) rfl kk) ?_
    show own_Fin _ _ _ _ _ _ _ (T8.setTop (mkF m 206 #[.val (.int x0), .val (.long x1), .second, .val (.long x2), .second, .val (.long x3), .second, .val (.long x4), .second, .val (.ref o), .val (.int (x0 &&& (3 : Int32))), .val (.int ((own_iushr x0 (2 : Int32)) &&& (3 : Int32))), .val (.int ((own_iushr x0 (4 : Int32)) &&& (3 : Int32))), .val (.int ((own_iushr x0 (6 : Int32)) &&& (3 : Int32))), .val (.int ((own_iushr x0 (8 : Int32)) &&& (3 : Int32))), .val (.int ((own_iushr x0 (10 : Int32)) &&& (3 : Int32))), .val (.int ((own_iushr x0 (12 : Int32)) &&& (3 : Int32))), .val (.int (1 : Int32)), .val (.long (x3 + x4)), .second, .val (.long (own_m0_170a x0 x3 x4)), .second] [(.long (x3 + x4)), (.long (x3 + x4))]))
    refine own_of (fun _ kk => XS.lcmp X8.here hx rfl (hb hby at_206) rfl kk) ?_
    show own_Fin _ _ _ _ _ _ _ (T8.setTop (mkF m 207 #[.val (.int x0), .val (.long x1), .second, .val (.long x2), .second, .val (.long x3), .second, .val (.long x4), .second, .val (.ref o), .val (.int (x0 &&& (3 : Int32))), .val (.int ((own_iushr x0 (2 : Int32)) &&& (3 : Int32))), .val (.int ((own_iushr x0 (4 : Int32)) &&& (3 : Int32))), .val (.int ((own_iushr x0 (6 : Int32)) &&& (3 : Int32))), .val (.int ((own_iushr x0 (8 : Int32)) &&& (3 : Int32))), .val (.int ((own_iushr x0 (10 : Int32)) &&& (3 : Int32))), .val (.int ((own_iushr x0 (12 : Int32)) &&& (3 : Int32))), .val (.int (1 : Int32)), .val (.long (x3 + x4)), .second, .val (.long (own_m0_170a x0 x3 x4)), .second] [(.int (lcmpW (x3 + x4) (x3 + x4)))]))
    refine own_of (fun _ kk => XS.ifNo X8.here hx rfl (hb hby at_207) rfl ((if0 _ _).trans (teq ((lw_eq _ _).mpr rfl)).2) kk) ?_
    show own_Fin _ _ _ _ _ _ _ (T8.setTop (mkF m 210 #[.val (.int x0), .val (.long x1), .second, .val (.long x2), .second, .val (.long x3), .second, .val (.long x4), .second, .val (.ref o), .val (.int (x0 &&& (3 : Int32))), .val (.int ((own_iushr x0 (2 : Int32)) &&& (3 : Int32))), .val (.int ((own_iushr x0 (4 : Int32)) &&& (3 : Int32))), .val (.int ((own_iushr x0 (6 : Int32)) &&& (3 : Int32))), .val (.int ((own_iushr x0 (8 : Int32)) &&& (3 : Int32))), .val (.int ((own_iushr x0 (10 : Int32)) &&& (3 : Int32))), .val (.int ((own_iushr x0 (12 : Int32)) &&& (3 : Int32))), .val (.int (1 : Int32)), .val (.long (x3 + x4)), .second, .val (.long (own_m0_170a x0 x3 x4)), .second] []))
    refine own_of (fun _ kk => XS.aload X8.here hx rfl (hb hby at_210) rfl rfl kk) ?_
    show own_Fin _ _ _ _ _ _ _ (T8.setTop (mkF m 212 #[.val (.int x0), .val (.long x1), .second, .val (.long x2), .second, .val (.long x3), .second, .val (.long x4), .second, .val (.ref o), .val (.int (x0 &&& (3 : Int32))), .val (.int ((own_iushr x0 (2 : Int32)) &&& (3 : Int32))), .val (.int ((own_iushr x0 (4 : Int32)) &&& (3 : Int32))), .val (.int ((own_iushr x0 (6 : Int32)) &&& (3 : Int32))), .val (.int ((own_iushr x0 (8 : Int32)) &&& (3 : Int32))), .val (.int ((own_iushr x0 (10 : Int32)) &&& (3 : Int32))), .val (.int ((own_iushr x0 (12 : Int32)) &&& (3 : Int32))), .val (.int (1 : Int32)), .val (.long (x3 + x4)), .second, .val (.long (own_m0_170a x0 x3 x4)), .second] [(.ref o)]))
    refine own_of (fun _ kk => XS.iload X8.here hx rfl (hb hby at_212) rfl kk) ?_
    show own_Fin _ _ _ _ _ _ _ (T8.setTop (mkF m 214 #[.val (.int x0), .val (.long x1), .second, .val (.long x2), .second, .val (.long x3), .second, .val (.long x4), .second, .val (.ref o), .val (.int (x0 &&& (3 : Int32))), .val (.int ((own_iushr x0 (2 : Int32)) &&& (3 : Int32))), .val (.int ((own_iushr x0 (4 : Int32)) &&& (3 : Int32))), .val (.int ((own_iushr x0 (6 : Int32)) &&& (3 : Int32))), .val (.int ((own_iushr x0 (8 : Int32)) &&& (3 : Int32))), .val (.int ((own_iushr x0 (10 : Int32)) &&& (3 : Int32))), .val (.int ((own_iushr x0 (12 : Int32)) &&& (3 : Int32))), .val (.int (1 : Int32)), .val (.long (x3 + x4)), .second, .val (.long (own_m0_170a x0 x3 x4)), .second] [(.int ((own_iushr x0 (12 : Int32)) &&& (3 : Int32))), (.ref o)]))
    refine own_callV X8 hx hZ (y := (⟨"com/example/shardloom/shardloom/Ties", "weight", "(I)J"⟩ : MethodName)) (z := (⟨"com/example/shardloom/shardloom/Ties", "weight", "(I)J"⟩ : MethodName)) hown (hw _ (List.mem_of_getElem? (i := 40) rfl)) (hw _ (List.mem_of_getElem? (i := 41) rfl)) (notFace_of_selects (args := #[]) (mvT hZ (hw _ (List.mem_of_getElem? (i := 43) rfl)))) (hw _ (List.mem_of_getElem? (i := 43) rfl)) (hw _ (List.mem_of_getElem? (i := 42) rfl)) (hw _ (List.mem_of_getElem? (i := 2) rfl)) (hw _ (List.mem_of_getElem? (i := 44) rfl)) (by decide) e8 O4.1 (argsL := [(.int ((own_iushr x0 (12 : Int32)) &&& (3 : Int32)))]) (met7 l Z a0 hw o ((own_iushr x0 (12 : Int32)) &&& (3 : Int32)) (own_ac (1 : Int32) (own_ab (fun _ => (0 : Int32)) ((own_iushr x0 (8 : Int32)) &&& (3 : Int32)).toInt.toNat) ((own_iushr x0 (10 : Int32)) &&& (3 : Int32)).toInt.toNat) a1 a2 a3 (own_aw (own_aw (fun _ => (0 : Int64)) ((own_iushr x0 (8 : Int32)) &&& (3 : Int32)).toInt.toNat x3) ((own_iushr x0 (10 : Int32)) &&& (3 : Int32)).toInt.toNat x4) (own_ak (own_ak K (fun _ => (0 : Int32)) ((own_iushr x0 (8 : Int32)) &&& (3 : Int32)).toInt.toNat 0 ((own_iushr x0 (8 : Int32)) &&& (3 : Int32))) (own_ab (fun _ => (0 : Int32)) ((own_iushr x0 (8 : Int32)) &&& (3 : Int32)).toInt.toNat) ((own_iushr x0 (10 : Int32)) &&& (3 : Int32)).toInt.toNat 1 ((own_iushr x0 (10 : Int32)) &&& (3 : Int32))) (own_ab (own_ab (fun _ => (0 : Int32)) ((own_iushr x0 (8 : Int32)) &&& (3 : Int32)).toInt.toNat) ((own_iushr x0 (10 : Int32)) &&& (3 : Int32)).toInt.toNat) ((own_iushr x0 (12 : Int32)) &&& (3 : Int32)).toInt.toNat (own_m0_170a x0 x3 x4) h4 n0 Z4 O4 (own_k3 _).1 (own_k3 _).2 (own_q214 x0 x3 x4 K c147)) (W := 0) (by decide) (by decide) (by decide) (by decide) (by rw [hml]; rfl) pd_3 rfl (rest := []) rfl (Nat.le_of_eq rfl) (hb hby at_214) ?_
    intro v9 T9 h9 L9 X9 e9 q9
    obtain ⟨rfl, qh9, rfl⟩ := q9
    rw [qh9] at e9
    have N9 := Fr.app N8 (Fr.nil n0)
    show own_Fin _ _ _ _ _ _ _ (T9.setTop (mkF m 217 #[.val (.int x0), .val (.long x1), .second, .val (.long x2), .second, .val (.long x3), .second, .val (.long x4), .second, .val (.ref o), .val (.int (x0 &&& (3 : Int32))), .val (.int ((own_iushr x0 (2 : Int32)) &&& (3 : Int32))), .val (.int ((own_iushr x0 (4 : Int32)) &&& (3 : Int32))), .val (.int ((own_iushr x0 (6 : Int32)) &&& (3 : Int32))), .val (.int ((own_iushr x0 (8 : Int32)) &&& (3 : Int32))), .val (.int ((own_iushr x0 (10 : Int32)) &&& (3 : Int32))), .val (.int ((own_iushr x0 (12 : Int32)) &&& (3 : Int32))), .val (.int (1 : Int32)), .val (.long (x3 + x4)), .second, .val (.long (own_m0_170a x0 x3 x4)), .second] [(.long (own_m0_170a x0 x3 x4))]))
    refine own_of (fun _ kk => XS.lload X9.here hx rfl (hb hby at_217) rfl kk) ?_
    show own_Fin _ _ _ _ _ _ _ (T9.setTop (mkF m 219 #[.val (.int x0), .val (.long x1), .second, .val (.long x2), .second, .val (.long x3), .second, .val (.long x4), .second, .val (.ref o), .val (.int (x0 &&& (3 : Int32))), .val (.int ((own_iushr x0 (2 : Int32)) &&& (3 : Int32))), .val (.int ((own_iushr x0 (4 : Int32)) &&& (3 : Int32))), .val (.int ((own_iushr x0 (6 : Int32)) &&& (3 : Int32))), .val (.int ((own_iushr x0 (8 : Int32)) &&& (3 : Int32))), .val (.int ((own_iushr x0 (10 : Int32)) &&& (3 : Int32))), .val (.int ((own_iushr x0 (12 : Int32)) &&& (3 : Int32))), .val (.int (1 : Int32)), .val (.long (x3 + x4)), .second, .val (.long (own_m0_170a x0 x3 x4)), .second] [(.long (own_m0_170a x0 x3 x4)), (.long (own_m0_170a x0 x3 x4))]))
    refine own_of (fun _ kk => XS.lcmp X9.here hx rfl (hb hby at_219) rfl kk) ?_
    show own_Fin _ _ _ _ _ _ _ (T9.setTop (mkF m 220 #[.val (.int x0), .val (.long x1), .second, .val (.long x2), .second, .val (.long x3), .second, .val (.long x4), .second, .val (.ref o), .val (.int (x0 &&& (3 : Int32))), .val (.int ((own_iushr x0 (2 : Int32)) &&& (3 : Int32))), .val (.int ((own_iushr x0 (4 : Int32)) &&& (3 : Int32))), .val (.int ((own_iushr x0 (6 : Int32)) &&& (3 : Int32))), .val (.int ((own_iushr x0 (8 : Int32)) &&& (3 : Int32))), .val (.int ((own_iushr x0 (10 : Int32)) &&& (3 : Int32))), .val (.int ((own_iushr x0 (12 : Int32)) &&& (3 : Int32))), .val (.int (1 : Int32)), .val (.long (x3 + x4)), .second, .val (.long (own_m0_170a x0 x3 x4)), .second] [(.int (lcmpW (own_m0_170a x0 x3 x4) (own_m0_170a x0 x3 x4)))]))
    refine own_of (fun _ kk => XS.ifNo X9.here hx rfl (hb hby at_220) rfl ((if0 _ _).trans (teq ((lw_eq _ _).mpr rfl)).2) kk) ?_
    show own_Fin _ _ _ _ _ _ _ (T9.setTop (mkF m 223 #[.val (.int x0), .val (.long x1), .second, .val (.long x2), .second, .val (.long x3), .second, .val (.long x4), .second, .val (.ref o), .val (.int (x0 &&& (3 : Int32))), .val (.int ((own_iushr x0 (2 : Int32)) &&& (3 : Int32))), .val (.int ((own_iushr x0 (4 : Int32)) &&& (3 : Int32))), .val (.int ((own_iushr x0 (6 : Int32)) &&& (3 : Int32))), .val (.int ((own_iushr x0 (8 : Int32)) &&& (3 : Int32))), .val (.int ((own_iushr x0 (10 : Int32)) &&& (3 : Int32))), .val (.int ((own_iushr x0 (12 : Int32)) &&& (3 : Int32))), .val (.int (1 : Int32)), .val (.long (x3 + x4)), .second, .val (.long (own_m0_170a x0 x3 x4)), .second] []))
    refine own_of (fun _ kk => XS.iconst X9.here hx rfl (hb hby at_223) kk) ?_
    show own_Fin _ _ _ _ _ _ _ (T9.setTop (mkF m 224 #[.val (.int x0), .val (.long x1), .second, .val (.long x2), .second, .val (.long x3), .second, .val (.long x4), .second, .val (.ref o), .val (.int (x0 &&& (3 : Int32))), .val (.int ((own_iushr x0 (2 : Int32)) &&& (3 : Int32))), .val (.int ((own_iushr x0 (4 : Int32)) &&& (3 : Int32))), .val (.int ((own_iushr x0 (6 : Int32)) &&& (3 : Int32))), .val (.int ((own_iushr x0 (8 : Int32)) &&& (3 : Int32))), .val (.int ((own_iushr x0 (10 : Int32)) &&& (3 : Int32))), .val (.int ((own_iushr x0 (12 : Int32)) &&& (3 : Int32))), .val (.int (1 : Int32)), .val (.long (x3 + x4)), .second, .val (.long (own_m0_170a x0 x3 x4)), .second] [(.int (1 : Int32))]))
    refine own_of (fun _ kk => XS.goto X9.here hx rfl (pc0 := 224) (pc' := 228) rfl (hb hby at_224) (by decide) (by decide) kk) ?_
    show own_Fin _ _ _ _ _ _ _ (T9.setTop (mkF m 228 #[.val (.int x0), .val (.long x1), .second, .val (.long x2), .second, .val (.long x3), .second, .val (.long x4), .second, .val (.ref o), .val (.int (x0 &&& (3 : Int32))), .val (.int ((own_iushr x0 (2 : Int32)) &&& (3 : Int32))), .val (.int ((own_iushr x0 (4 : Int32)) &&& (3 : Int32))), .val (.int ((own_iushr x0 (6 : Int32)) &&& (3 : Int32))), .val (.int ((own_iushr x0 (8 : Int32)) &&& (3 : Int32))), .val (.int ((own_iushr x0 (10 : Int32)) &&& (3 : Int32))), .val (.int ((own_iushr x0 (12 : Int32)) &&& (3 : Int32))), .val (.int (1 : Int32)), .val (.long (x3 + x4)), .second, .val (.long (own_m0_170a x0 x3 x4)), .second] [(.int (1 : Int32))]))
    refine own_of (fun _ kk => XS.istore X9.here hx rfl (hb hby at_228) rfl (l' := #[.val (.int x0), .val (.long x1), .second, .val (.long x2), .second, .val (.long x3), .second, .val (.long x4), .second, .val (.ref o), .val (.int (x0 &&& (3 : Int32))), .val (.int ((own_iushr x0 (2 : Int32)) &&& (3 : Int32))), .val (.int ((own_iushr x0 (4 : Int32)) &&& (3 : Int32))), .val (.int ((own_iushr x0 (6 : Int32)) &&& (3 : Int32))), .val (.int ((own_iushr x0 (8 : Int32)) &&& (3 : Int32))), .val (.int ((own_iushr x0 (10 : Int32)) &&& (3 : Int32))), .val (.int ((own_iushr x0 (12 : Int32)) &&& (3 : Int32))), .val (.int (1 : Int32)), .val (.long (x3 + x4)), .second, .val (.long (own_m0_170a x0 x3 x4)), .second]) rfl kk) ?_
    show own_Fin _ _ _ _ _ _ _ (T9.setTop (mkF m 230 #[.val (.int x0), .val (.long x1), .second, .val (.long x2), .second, .val (.long x3), .second, .val (.long x4), .second, .val (.ref o), .val (.int (x0 &&& (3 : Int32))), .val (.int ((own_iushr x0 (2 : Int32)) &&& (3 : Int32))), .val (.int ((own_iushr x0 (4 : Int32)) &&& (3 : Int32))), .val (.int ((own_iushr x0 (6 : Int32)) &&& (3 : Int32))), .val (.int ((own_iushr x0 (8 : Int32)) &&& (3 : Int32))), .val (.int ((own_iushr x0 (10 : Int32)) &&& (3 : Int32))), .val (.int ((own_iushr x0 (12 : Int32)) &&& (3 : Int32))), .val (.int (1 : Int32)), .val (.long (x3 + x4)), .second, .val (.long (own_m0_170a x0 x3 x4)), .second] []))
    refine own_of (fun _ kk => XS.goto X9.here hx rfl (pc0 := 230) (pc' := 346) rfl (hb hby at_230) (by decide) (by decide) kk) ?_
    show own_Fin _ _ _ _ _ _ _ (T9.setTop (mkF m 346 #[.val (.int x0), .val (.long x1), .second, .val (.long x2), .second, .val (.long x3), .second, .val (.long x4), .second, .val (.ref o), .val (.int (x0 &&& (3 : Int32))), .val (.int ((own_iushr x0 (2 : Int32)) &&& (3 : Int32))), .val (.int ((own_iushr x0 (4 : Int32)) &&& (3 : Int32))), .val (.int ((own_iushr x0 (6 : Int32)) &&& (3 : Int32))), .val (.int ((own_iushr x0 (8 : Int32)) &&& (3 : Int32))), .val (.int ((own_iushr x0 (10 : Int32)) &&& (3 : Int32))), .val (.int ((own_iushr x0 (12 : Int32)) &&& (3 : Int32))), .val (.int (1 : Int32)), .val (.long (x3 + x4)), .second, .val (.long (own_m0_170a x0 x3 x4)), .second] []))
    refine own_of (fun _ kk => XS.iload X9.here hx rfl (hb hby at_346) rfl kk) ?_
    show own_Fin _ _ _ _ _ _ _ (T9.setTop (mkF m 348 #[.val (.int x0), .val (.long x1), .second, .val (.long x2), .second, .val (.long x3), .second, .val (.long x4), .second, .val (.ref o), .val (.int (x0 &&& (3 : Int32))), .val (.int ((own_iushr x0 (2 : Int32)) &&& (3 : Int32))), .val (.int ((own_iushr x0 (4 : Int32)) &&& (3 : Int32))), .val (.int ((own_iushr x0 (6 : Int32)) &&& (3 : Int32))), .val (.int ((own_iushr x0 (8 : Int32)) &&& (3 : Int32))), .val (.int ((own_iushr x0 (10 : Int32)) &&& (3 : Int32))), .val (.int ((own_iushr x0 (12 : Int32)) &&& (3 : Int32))), .val (.int (1 : Int32)), .val (.long (x3 + x4)), .second, .val (.long (own_m0_170a x0 x3 x4)), .second] [(.int (1 : Int32))]))
    exact own_retN X9 hx hlk e9 (t := .boolean) hret (by simp) (hb hby at_348) (by decide) (by decide) (z' := (1 : Int32)) (by decide) ⟨rfl, N9⟩
  · refine own_of (fun _ kk => XS.icmpYes X4.here hx rfl (pc0 := 147) (pc' := 233) rfl (hb hby at_147) rfl (feq c147).2 (by decide) (by decide) kk) ?_
    show own_Fin _ _ _ _ _ _ _ (T4.setTop (mkF m 233 #[.val (.int x0), .val (.long x1), .second, .val (.long x2), .second, .val (.long x3), .second, .val (.long x4), .second, .val (.ref o), .val (.int (x0 &&& (3 : Int32))), .val (.int ((own_iushr x0 (2 : Int32)) &&& (3 : Int32))), .val (.int ((own_iushr x0 (4 : Int32)) &&& (3 : Int32))), .val (.int ((own_iushr x0 (6 : Int32)) &&& (3 : Int32))), .val (.int ((own_iushr x0 (8 : Int32)) &&& (3 : Int32))), .val (.int ((own_iushr x0 (10 : Int32)) &&& (3 : Int32))), .val (.int ((own_iushr x0 (12 : Int32)) &&& (3 : Int32))), .val (.int (1 : Int32)), .unset, .unset, .unset, .unset] []))
    refine own_of (fun _ kk => XS.iload X4.here hx rfl (hb hby at_233) rfl kk) ?_
    show own_Fin _ _ _ _ _ _ _ (T4.setTop (mkF m 235 #[.val (.int x0), .val (.long x1), .second, .val (.long x2), .second, .val (.long x3), .second, .val (.long x4), .second, .val (.ref o), .val (.int (x0 &&& (3 : Int32))), .val (.int ((own_iushr x0 (2 : Int32)) &&& (3 : Int32))), .val (.int ((own_iushr x0 (4 : Int32)) &&& (3 : Int32))), .val (.int ((own_iushr x0 (6 : Int32)) &&& (3 : Int32))), .val (.int ((own_iushr x0 (8 : Int32)) &&& (3 : Int32))), .val (.int ((own_iushr x0 (10 : Int32)) &&& (3 : Int32))), .val (.int ((own_iushr x0 (12 : Int32)) &&& (3 : Int32))), .val (.int (1 : Int32)), .unset, .unset, .unset, .unset] [(.int ((own_iushr x0 (12 : Int32)) &&& (3 : Int32)))]))
    refine own_of (fun _ kk => XS.iload X4.here hx rfl (hb hby at_235) rfl kk) ?_
    show own_Fin _ _ _ _ _ _ _ (T4.setTop (mkF m 237 #[.val (.int x0), .val (.long x1), .second, .val (.long x2), .second, .val (.long x3), .second, .val (.long x4), .second, .val (.ref o), .val (.int (x0 &&& (3 : Int32))), .val (.int ((own_iushr x0 (2 : Int32)) &&& (3 : Int32))), .val (.int ((own_iushr x0 (4 : Int32)) &&& (3 : Int32))), .val (.int ((own_iushr x0 (6 : Int32)) &&& (3 : Int32))), .val (.int ((own_iushr x0 (8 : Int32)) &&& (3 : Int32))), .val (.int ((own_iushr x0 (10 : Int32)) &&& (3 : Int32))), .val (.int ((own_iushr x0 (12 : Int32)) &&& (3 : Int32))), .val (.int (1 : Int32)), .unset, .unset, .unset, .unset] [(.int ((own_iushr x0 (8 : Int32)) &&& (3 : Int32))), (.int ((own_iushr x0 (12 : Int32)) &&& (3 : Int32)))]))
    suffices k10 : own_Fin _ _ _ _ _ _ _ (T4.setTop (mkF m 264 #[.val (.int x0), .val (.long x1), .second, .val (.long x2), .second, .val (.long x3), .second, .val (.long x4), .second, .val (.ref o), .val (.int (x0 &&& (3 : Int32))), .val (.int ((own_iushr x0 (2 : Int32)) &&& (3 : Int32))), .val (.int ((own_iushr x0 (4 : Int32)) &&& (3 : Int32))), .val (.int ((own_iushr x0 (6 : Int32)) &&& (3 : Int32))), .val (.int ((own_iushr x0 (8 : Int32)) &&& (3 : Int32))), .val (.int ((own_iushr x0 (10 : Int32)) &&& (3 : Int32))), .val (.int ((own_iushr x0 (12 : Int32)) &&& (3 : Int32))), .val (.int (1 : Int32)), .val (.long (own_m0_264a x0 x3 x4)), .second, .unset, .unset] [])) by
      by_cases c237 : ((own_iushr x0 (12 : Int32)) &&& (3 : Int32)) = ((own_iushr x0 (8 : Int32)) &&& (3 : Int32))
      · refine own_of (fun _ kk => XS.icmpNo X4.here hx rfl (hb hby at_237) rfl (teq c237).2 kk) ?_
        show own_Fin _ _ _ _ _ _ _ (T4.setTop (mkF m 240 #[.val (.int x0), .val (.long x1), .second, .val (.long x2), .second, .val (.long x3), .second, .val (.long x4), .second, .val (.ref o), .val (.int (x0 &&& (3 : Int32))), .val (.int ((own_iushr x0 (2 : Int32)) &&& (3 : Int32))), .val (.int ((own_iushr x0 (4 : Int32)) &&& (3 : Int32))), .val (.int ((own_iushr x0 (6 : Int32)) &&& (3 : Int32))), .val (.int ((own_iushr x0 (8 : Int32)) &&& (3 : Int32))), .val (.int ((own_iushr x0 (10 : Int32)) &&& (3 : Int32))), .val (.int ((own_iushr x0 (12 : Int32)) &&& (3 : Int32))), .val (.int (1 : Int32)), .unset, .unset, .unset, .unset] []))
        refine own_of (fun _ kk => XS.lload X4.here hx rfl (hb hby at_240) rfl kk) ?_
        show own_Fin _ _ _ _ _ _ _ (T4.setTop (mkF m 242 #[.val (.int x0), .val (.long x1), .second, .val (.long x2), .second, .val (.long x3), .second, .val (.long x4), .second, .val (.ref o), .val (.int (x0 &&& (3 : Int32))), .val (.int ((own_iushr x0 (2 : Int32)) &&& (3 : Int32))), .val (.int ((own_iushr x0 (4 : Int32)) &&& (3 : Int32))), .val (.int ((own_iushr x0 (6 : Int32)) &&& (3 : Int32))), .val (.int ((own_iushr x0 (8 : Int32)) &&& (3 : Int32))), .val (.int ((own_iushr x0 (10 : Int32)) &&& (3 : Int32))), .val (.int ((own_iushr x0 (12 : Int32)) &&& (3 : Int32))), .val (.int (1 : Int32)), .unset, .unset, .unset, .unset] [(.long x3)]))
        refine own_of (fun _ kk => XS.lstore X4.here hx rfl (hb hby at_242) rfl (l' := #[.val (.int x0), .val (.long x1), .second, .val (.long x2), .second, .val (.long x3), .second, .val (.long x4), .second, .val (.ref o), .val (.int (x0 &&& (3 : Int32))), .val (.int ((own_iushr x0 (2 : Int32)) &&& (3 : Int32))), .val (.int ((own_iushr x0 (4 : Int32)) &&& (3 : Int32))), .val (.int ((own_iushr x0 (6 : Int32)) &&& (3 : Int32))), .val (.int ((own_iushr x0 (8 : Int32)) &&& (3 : Int32))), .val (.int ((own_iushr x0 (10 : Int32)) &&& (3 : Int32))), .val (.int ((own_iushr x0 (12 : Int32)) &&& (3 : Int32))), .val (.int (1 : Int32)), .val (.long x3), .second, .unset, .unset]) rfl kk) ?_
        show own_Fin _ _ _ _ _ _ _ (T4.setTop (mkF m 244 #[.val (.int x0), .val (.long x1), .second, .val (.long x2), .second, .val (.long x3), .second, .val (.long x4), .second, .val (.ref o), .val (.int (x0 &&& (3 : Int32))), .val (.int ((own_iushr x0 (2 : Int32)) &&& (3 : Int32))), .val (.int ((own_iushr x0 (4 : Int32)) &&& (3 : Int32))), .val (.int ((own_iushr x0 (6 : Int32)) &&& (3 : Int32))), .val (.int ((own_iushr x0 (8 : Int32)) &&& (3 : Int32))), .val (.int ((own_iushr x0 (10 : Int32)) &&& (3 : Int32))), .val (.int ((own_iushr x0 (12 : Int32)) &&& (3 : Int32))), .val (.int (1 : Int32)), .val (.long x3), .second, .unset, .unset] []))
        refine own_of (fun _ kk => XS.goto X4.here hx rfl (pc0 := 244) (pc' := 264) rfl (hb hby at_244) (by decide) (by decide) kk) ?_
        show own_Fin _ _ _ _ _ _ _ (T4.setTop (mkF m 264 #[.val (.int x0), .val (.long x1), .second, .val (.long x2), .second, .val (.long x3), .second, .val (.long x4), .second, .val (.ref o), .val (.int (x0 &&& (3 : Int32))), .val (.int ((own_iushr x0 (2 : Int32)) &&& (3 : Int32))), .val (.int ((own_iushr x0 (4 : Int32)) &&& (3 : Int32))), .val (.int ((own_iushr x0 (6 : Int32)) &&& (3 : Int32))), .val (.int ((own_iushr x0 (8 : Int32)) &&& (3 : Int32))), .val (.int ((own_iushr x0 (10 : Int32)) &&& (3 : Int32))), .val (.int ((own_iushr x0 (12 : Int32)) &&& (3 : Int32))), .val (.int (1 : Int32)), .val (.long x3), .second, .unset, .unset] []))
        simp only [own_m0_264a, if_pos c237] at k10 ⊢
        exact k10
      · refine own_of (fun _ kk => XS.icmpYes X4.here hx rfl (pc0 := 237) (pc' := 247) rfl (hb hby at_237) rfl (feq c237).2 (by decide) (by decide) kk) ?_
        show own_Fin _ _ _ _ _ _ _ (T4.setTop (mkF m 247 #[.val (.int x0), .val (.long x1), .second, .val (.long x2), .second, .val (.long x3), .second, .val (.long x4), .second, .val (.ref o), .val (.int (x0 &&& (3 : Int32))), .val (.int ((own_iushr x0 (2 : Int32)) &&& (3 : Int32))), .val (.int ((own_iushr x0 (4 : Int32)) &&& (3 : Int32))), .val (.int ((own_iushr x0 (6 : Int32)) &&& (3 : Int32))), .val (.int ((own_iushr x0 (8 : Int32)) &&& (3 : Int32))), .val (.int ((own_iushr x0 (10 : Int32)) &&& (3 : Int32))), .val (.int ((own_iushr x0 (12 : Int32)) &&& (3 : Int32))), .val (.int (1 : Int32)), .unset, .unset, .unset, .unset] []))
        refine own_of (fun _ kk => XS.iload X4.here hx rfl (hb hby at_247) rfl kk) ?_
        show own_Fin _ _ _ _ _ _ _ (T4.setTop (mkF m 249 #[.val (.int x0), .val (.long x1), .second, .val (.long x2), .second, .val (.long x3), .second, .val (.long x4), .second, .val (.ref o), .val (.int (x0 &&& (3 : Int32))), .val (.int ((own_iushr x0 (2 : Int32)) &&& (3 : Int32))), .val (.int ((own_iushr x0 (4 : Int32)) &&& (3 : Int32))), .val (.int ((own_iushr x0 (6 : Int32)) &&& (3 : Int32))), .val (.int ((own_iushr x0 (8 : Int32)) &&& (3 : Int32))), .val (.int ((own_iushr x0 (10 : Int32)) &&& (3 : Int32))), .val (.int ((own_iushr x0 (12 : Int32)) &&& (3 : Int32))), .val (.int (1 : Int32)), .unset, .unset, .unset, .unset] [(.int ((own_iushr x0 (12 : Int32)) &&& (3 : Int32)))]))
        refine own_of (fun _ kk => XS.iload X4.here hx rfl (hb hby at_249) rfl kk) ?_
        show own_Fin _ _ _ _ _ _ _ (T4.setTop (mkF m 251 #[.val (.int x0), .val (.long x1), .second, .val (.long x2), .second, .val (.long x3), .second, .val (.long x4), .second, .val (.ref o), .val (.int (x0 &&& (3 : Int32))), .val (.int ((own_iushr x0 (2 : Int32)) &&& (3 : Int32))), .val (.int ((own_iushr x0 (4 : Int32)) &&& (3 : Int32))), .val (.int ((own_iushr x0 (6 : Int32)) &&& (3 : Int32))), .val (.int ((own_iushr x0 (8 : Int32)) &&& (3 : Int32))), .val (.int ((own_iushr x0 (10 : Int32)) &&& (3 : Int32))), .val (.int ((own_iushr x0 (12 : Int32)) &&& (3 : Int32))), .val (.int (1 : Int32)), .unset, .unset, .unset, .unset] [(.int ((own_iushr x0 (10 : Int32)) &&& (3 : Int32))), (.int ((own_iushr x0 (12 : Int32)) &&& (3 : Int32)))]))
        by_cases c251 : ((own_iushr x0 (12 : Int32)) &&& (3 : Int32)) = ((own_iushr x0 (10 : Int32)) &&& (3 : Int32))
        · refine own_of (fun _ kk => XS.icmpNo X4.here hx rfl (hb hby at_251) rfl (teq c251).2 kk) ?_
          show own_Fin _ _ _ _ _ _ _ (T4.setTop (mkF m 254 #[.val (.int x0), .val (.long x1), .second, .val (.long x2), .second, .val (.long x3), .second, .val (.long x4), .second, .val (.ref o), .val (.int (x0 &&& (3 : Int32))), .val (.int ((own_iushr x0 (2 : Int32)) &&& (3 : Int32))), .val (.int ((own_iushr x0 (4 : Int32)) &&& (3 : Int32))), .val (.int ((own_iushr x0 (6 : Int32)) &&& (3 : Int32))), .val (.int ((own_iushr x0 (8 : Int32)) &&& (3 : Int32))), .val (.int ((own_iushr x0 (10 : Int32)) &&& (3 : Int32))), .val (.int ((own_iushr x0 (12 : Int32)) &&& (3 : Int32))), .val (.int (1 : Int32)), .unset, .unset, .unset, .unset] []))
          refine own_of (fun _ kk => XS.lload X4.here hx rfl (hb hby at_254) rfl kk) ?_
          show own_Fin _ _ _ _ _ _ _ (T4.setTop (mkF m 256 #[.val (.int x0), .val (.long x1), .second, .val (.long x2), .second, .val (.long x3), .second, .val (.long x4), .second, .val (.ref o), .val (.int (x0 &&& (3 : Int32))), .val (.int ((own_iushr x0 (2 : Int32)) &&& (3 : Int32))), .val (.int ((own_iushr x0 (4 : Int32)) &&& (3 : Int32))), .val (.int ((own_iushr x0 (6 : Int32)) &&& (3 : Int32))), .val (.int ((own_iushr x0 (8 : Int32)) &&& (3 : Int32))), .val (.int ((own_iushr x0 (10 : Int32)) &&& (3 : Int32))), .val (.int ((own_iushr x0 (12 : Int32)) &&& (3 : Int32))), .val (.int (1 : Int32)), .unset, .unset, .unset, .unset] [(.long x4)]))
          refine own_of (fun _ kk => XS.lstore X4.here hx rfl (hb hby at_256) rfl (l' := #[.val (.int x0), .val (.long x1), .second, .val (.long x2), .second, .val (.long x3), .second, .val (.long x4), .second, .val (.ref o), .val (.int (x0 &&& (3 : Int32))), .val (.int ((own_iushr x0 (2 : Int32)) &&& (3 : Int32))), .val (.int ((own_iushr x0 (4 : Int32)) &&& (3 : Int32))), .val (.int ((own_iushr x0 (6 : Int32)) &&& (3 : Int32))), .val (.int ((own_iushr x0 (8 : Int32)) &&& (3 : Int32))), .val (.int ((own_iushr x0 (10 : Int32)) &&& (3 : Int32))), .val (.int ((own_iushr x0 (12 : Int32)) &&& (3 : Int32))), .val (.int (1 : Int32)), .val (.long x4), .second, .unset, .unset]) rfl kk) ?_
          show own_Fin _ _ _ _ _ _ _ (T4.setTop (mkF m 258 #[.val (.int x0), .val (.long x1), .second, .val (.long x2), .second, .val (.long x3), .second, .val (.long x4), .second, .val (.ref o), .val (.int (x0 &&& (3 : Int32))), .val (.int ((own_iushr x0 (2 : Int32)) &&& (3 : Int32))), .val (.int ((own_iushr x0 (4 : Int32)) &&& (3 : Int32))), .val (.int ((own_iushr x0 (6 : Int32)) &&& (3 : Int32))), .val (.int ((own_iushr x0 (8 : Int32)) &&& (3 : Int32))), .val (.int ((own_iushr x0 (10 : Int32)) &&& (3 : Int32))), .val (.int ((own_iushr x0 (12 : Int32)) &&& (3 : Int32))), .val (.int (1 : Int32)), .val (.long x4), .second, .unset, .unset] []))
          refine own_of (fun _ kk => XS.goto X4.here hx rfl (pc0 := 258) (pc' := 264) rfl (hb hby at_258) (by decide) (by decide) kk) ?_
          show own_Fin _ _ _ _ _ _ _ (T4.setTop (mkF m 264 #[.val (.int x0), .val (.long x1), .second, .val (.long x2), .second, .val (.long x3), .second, .val (.long x4), .second, .val (.ref o), .val (.int (x0 &&& (3 : Int32))), .val (.int ((own_iushr x0 (2 : Int32)) &&& (3 : Int32))), .val (.int ((own_iushr x0 (4 : Int32)) &&& (3 : Int32))), .val (.int ((own_iushr x0 (6 : Int32)) &&& (3 : Int32))), .val (.int ((own_iushr x0 (8 : Int32)) &&& (3 : Int32))), .val (.int ((own_iushr x0 (10 : Int32)) &&& (3 : Int32))), .val (.int ((own_iushr x0 (12 : Int32)) &&& (3 : Int32))), .val (.int (1 : Int32)), .val (.long x4), .second, .unset, .unset] []))
          simp only [own_m0_264a, if_neg c237, if_pos c251] at k10 ⊢
          exact k10
        · refine own_of (fun _ kk => XS.icmpYes X4.here hx rfl (pc0 := 251) (pc' := 261) rfl (hb hby at_251) rfl (feq c251).2 (by decide) (by decide) kk) ?_
          show own_Fin _ _ _ _ _ _ _ (T4.setTop (mkF m 261 #[.val (.int x0), .val (.long x1), .second, .val (.long x2), .second, .val (.long x3), .second, .val (.long x4), .second, .val (.ref o), .val (.int (x0 &&& (3 : Int32))), .val (.int ((own_iushr x0 (2 : Int32)) &&& (3 : Int32))), .val (.int ((own_iushr x0 (4 : Int32)) &&& (3 : Int32))), .val (.int ((own_iushr x0 (6 : Int32)) &&& (3 : Int32))), .val (.int ((own_iushr x0 (8 : Int32)) &&& (3 : Int32))), .val (.int ((own_iushr x0 (10 : Int32)) &&& (3 : Int32))), .val (.int ((own_iushr x0 (12 : Int32)) &&& (3 : Int32))), .val (.int (1 : Int32)), .unset, .unset, .unset, .unset] []))
          refine own_of (fun _ kk => XS.lconst X4.here hx rfl (hb hby at_261) kk) ?_
          show own_Fin _ _ _ _ _ _ _ (T4.setTop (mkF m 262 #[.val (.int x0), .val (.long x1), .second, .val (.long x2), .second, .val (.long x3), .second, .val (.long x4), .second, .val (.ref o), .val (.int (x0 &&& (3 : Int32))), .val (.int ((own_iushr x0 (2 : Int32)) &&& (3 : Int32))), .val (.int ((own_iushr x0 (4 : Int32)) &&& (3 : Int32))), .val (.int ((own_iushr x0 (6 : Int32)) &&& (3 : Int32))), .val (.int ((own_iushr x0 (8 : Int32)) &&& (3 : Int32))), .val (.int ((own_iushr x0 (10 : Int32)) &&& (3 : Int32))), .val (.int ((own_iushr x0 (12 : Int32)) &&& (3 : Int32))), .val (.int (1 : Int32)), .unset, .unset, .unset, .unset] [(.long (0 : Int64))]))
          refine own_of (fun _ kk => XS.lstore X4.here hx rfl (hb hby at_262) rfl (l' := #[.val (.int x0), .val (.long x1), .second, .val (.long x2), .second, .val (.long x3), .second, .val (.long x4), .second, .val (.ref o), .val (.int (x0 &&& (3 : Int32))), .val (.int ((own_iushr x0 (2 : Int32)) &&& (3 : Int32))), .val (.int ((own_iushr x0 (4 : Int32)) &&& (3 : Int32))), .val (.int ((own_iushr x0 (6 : Int32)) &&& (3 : Int32))), .val (.int ((own_iushr x0 (8 : Int32)) &&& (3 : Int32))), .val (.int ((own_iushr x0 (10 : Int32)) &&& (3 : Int32))), .val (.int ((own_iushr x0 (12 : Int32)) &&& (3 : Int32))), .val (.int (1 : Int32)), .val (.long (0 : Int64)), .second, .unset, .unset]) rfl kk) ?_
          show own_Fin _ _ _ _ _ _ _ (T4.setTop (mkF m 264 #[.val (.int x0), .val (.long x1), .second, .val (.long x2), .second, .val (.long x3), .second, .val (.long x4), .second, .val (.ref o), .val (.int (x0 &&& (3 : Int32))), .val (.int ((own_iushr x0 (2 : Int32)) &&& (3 : Int32))), .val (.int ((own_iushr x0 (4 : Int32)) &&& (3 : Int32))), .val (.int ((own_iushr x0 (6 : Int32)) &&& (3 : Int32))), .val (.int ((own_iushr x0 (8 : Int32)) &&& (3 : Int32))), .val (.int ((own_iushr x0 (10 : Int32)) &&& (3 : Int32))), .val (.int ((own_iushr x0 (12 : Int32)) &&& (3 : Int32))), .val (.int (1 : Int32)), .val (.long (0 : Int64)), .second, .unset, .unset] []))
          simp only [own_m0_264a, if_neg c237, if_neg c251] at k10 ⊢
          exact k10
    show own_Fin _ _ _ _ _ _ _ (T4.setTop (mkF m 264 #[.val (.int x0), .val (.long x1), .second, .val (.long x2), .second, .val (.long x3), .second, .val (.long x4), .second, .val (.ref o), .val (.int (x0 &&& (3 : Int32))), .val (.int ((own_iushr x0 (2 : Int32)) &&& (3 : Int32))), .val (.int ((own_iushr x0 (4 : Int32)) &&& (3 : Int32))), .val (.int ((own_iushr x0 (6 : Int32)) &&& (3 : Int32))), .val (.int ((own_iushr x0 (8 : Int32)) &&& (3 : Int32))), .val (.int ((own_iushr x0 (10 : Int32)) &&& (3 : Int32))), .val (.int ((own_iushr x0 (12 : Int32)) &&& (3 : Int32))), .val (.int (1 : Int32)), .val (.long (own_m0_264a x0 x3 x4)), .second, .unset, .unset] []))
    refine own_of (fun _ kk => XS.iload X4.here hx rfl (hb hby at_264) rfl kk) ?_
    show own_Fin _ _ _ _ _ _ _ (T4.setTop (mkF m 266 #[.val (.int x0), .val (.long x1), .second, .val (.long x2), .second, .val (.long x3), .second, .val (.long x4), .second, .val (.ref o), .val (.int (x0 &&& (3 : Int32))), .val (.int ((own_iushr x0 (2 : Int32)) &&& (3 : Int32))), .val (.int ((own_iushr x0 (4 : Int32)) &&& (3 : Int32))), .val (.int ((own_iushr x0 (6 : Int32)) &&& (3 : Int32))), .val (.int ((own_iushr x0 (8 : Int32)) &&& (3 : Int32))), .val (.int ((own_iushr x0 (10 : Int32)) &&& (3 : Int32))), .val (.int ((own_iushr x0 (12 : Int32)) &&& (3 : Int32))), .val (.int (1 : Int32)), .val (.long (own_m0_264a x0 x3 x4)), .second, .unset, .unset] [(.int (1 : Int32))]))
    refine own_of (fun _ kk => XS.ifNo X4.here hx rfl (hb hby at_266) rfl ((if0 _ _).trans (feq (by decide : ¬ ((1 : Int32) = (0 : Int32)))).1) kk) ?_
    show own_Fin _ _ _ _ _ _ _ (T4.setTop (mkF m 269 #[.val (.int x0), .val (.long x1), .second, .val (.long x2), .second, .val (.long x3), .second, .val (.long x4), .second, .val (.ref o), .val (.int (x0 &&& (3 : Int32))), .val (.int ((own_iushr x0 (2 : Int32)) &&& (3 : Int32))), .val (.int ((own_iushr x0 (4 : Int32)) &&& (3 : Int32))), .val (.int ((own_iushr x0 (6 : Int32)) &&& (3 : Int32))), .val (.int ((own_iushr x0 (8 : Int32)) &&& (3 : Int32))), .val (.int ((own_iushr x0 (10 : Int32)) &&& (3 : Int32))), .val (.int ((own_iushr x0 (12 : Int32)) &&& (3 : Int32))), .val (.int (1 : Int32)), .val (.long (own_m0_264a x0 x3 x4)), .second, .unset, .unset] []))
    refine own_of (fun _ kk => XS.aload X4.here hx rfl (hb hby at_269) rfl rfl kk) ?_
    show own_Fin _ _ _ _ _ _ _ (T4.setTop (mkF m 271 #[.val (.int x0), .val (.long x1), .second, .val (.long x2), .second, .val (.long x3), .second, .val (.long x4), .second, .val (.ref o), .val (.int (x0 &&& (3 : Int32))), .val (.int ((own_iushr x0 (2 : Int32)) &&& (3 : Int32))), .val (.int ((own_iushr x0 (4 : Int32)) &&& (3 : Int32))), .val (.int ((own_iushr x0 (6 : Int32)) &&& (3 : Int32))), .val (.int ((own_iushr x0 (8 : Int32)) &&& (3 : Int32))), .val (.int ((own_iushr x0 (10 : Int32)) &&& (3 : Int32))), .val (.int ((own_iushr x0 (12 : Int32)) &&& (3 : Int32))), .val (.int (1 : Int32)), .val (.long (own_m0_264a x0 x3 x4)), .second, .unset, .unset] [(.ref o)]))
    refine own_callV X4 hx hZ (y := (⟨"com/example/shardloom/shardloom/Ties", "count", "()I"⟩ : MethodName)) (z := (⟨"com/example/shardloom/shardloom/Ties", "count", "()I"⟩ : MethodName)) hown (hw _ (List.mem_of_getElem? (i := 25) rfl)) (hw _ (List.mem_of_getElem? (i := 26) rfl)) (notFace_of_selects (args := #[]) (mvT hZ (hw _ (List.mem_of_getElem? (i := 28) rfl)))) (hw _ (List.mem_of_getElem? (i := 28) rfl)) (hw _ (List.mem_of_getElem? (i := 27) rfl)) (hw _ (List.mem_of_getElem? (i := 2) rfl)) (hw _ (List.mem_of_getElem? (i := 29) rfl)) (by decide) e4 O4.1 (argsL := []) (met4 l Z a0 hw o (own_ac (1 : Int32) (own_ab (fun _ => (0 : Int32)) ((own_iushr x0 (8 : Int32)) &&& (3 : Int32)).toInt.toNat) ((own_iushr x0 (10 : Int32)) &&& (3 : Int32)).toInt.toNat) a1 a2 a3 (own_aw (own_aw (fun _ => (0 : Int64)) ((own_iushr x0 (8 : Int32)) &&& (3 : Int32)).toInt.toNat x3) ((own_iushr x0 (10 : Int32)) &&& (3 : Int32)).toInt.toNat x4) (own_ak (own_ak K (fun _ => (0 : Int32)) ((own_iushr x0 (8 : Int32)) &&& (3 : Int32)).toInt.toNat 0 ((own_iushr x0 (8 : Int32)) &&& (3 : Int32))) (own_ab (fun _ => (0 : Int32)) ((own_iushr x0 (8 : Int32)) &&& (3 : Int32)).toInt.toNat) ((own_iushr x0 (10 : Int32)) &&& (3 : Int32)).toInt.toNat 1 ((own_iushr x0 (10 : Int32)) &&& (3 : Int32))) (own_ab (own_ab (fun _ => (0 : Int32)) ((own_iushr x0 (8 : Int32)) &&& (3 : Int32)).toInt.toNat) ((own_iushr x0 (10 : Int32)) &&& (3 : Int32)).toInt.toNat) h4 n0 Z4 O4) (W := 0) (by decide) (by decide) (by decide) (by decide) (by rw [hml]; rfl) pd_0 rfl (rest := []) rfl (Nat.le_of_eq rfl) (hb hby at_271) ?_
    intro v11 T11 h11 L11 X11 e11 q11
    obtain ⟨rfl, qh11, rfl⟩ := q11
    rw [qh11] at e11
    have N11 := Fr.app N4 (Fr.nil n0)
    show own_Fin _ _ _ _ _ _ _ (T11.setTop (mkF m 274 #[.val (.int x0), .val (.long x1), .second, .val (.long x2), .second, .val (.long x3), .second, .val (.long x4), .second, .val (.ref o), .val (.int (x0 &&& (3 : Int32))), .val (.int ((own_iushr x0 (2 : Int32)) &&& (3 : Int32))), .val (.int ((own_iushr x0 (4 : Int32)) &&& (3 : Int32))), .val (.int ((own_iushr x0 (6 : Int32)) &&& (3 : Int32))), .val (.int ((own_iushr x0 (8 : Int32)) &&& (3 : Int32))), .val (.int ((own_iushr x0 (10 : Int32)) &&& (3 : Int32))), .val (.int ((own_iushr x0 (12 : Int32)) &&& (3 : Int32))), .val (.int (1 : Int32)), .val (.long (own_m0_264a x0 x3 x4)), .second, .unset, .unset] [(.int (own_ac (1 : Int32) (own_ab (fun _ => (0 : Int32)) ((own_iushr x0 (8 : Int32)) &&& (3 : Int32)).toInt.toNat) ((own_iushr x0 (10 : Int32)) &&& (3 : Int32)).toInt.toNat))]))
    refine own_of (fun _ kk => XS.iconst X11.here hx rfl (hb hby at_274) kk) ?_
    show own_Fin _ _ _ _ _ _ _ (T11.setTop (mkF m 275 #[.val (.int x0), .val (.long x1), .second, .val (.long x2), .second, .val (.long x3), .second, .val (.long x4), .second, .val (.ref o), .val (.int (x0 &&& (3 : Int32))), .val (.int ((own_iushr x0 (2 : Int32)) &&& (3 : Int32))), .val (.int ((own_iushr x0 (4 : Int32)) &&& (3 : Int32))), .val (.int ((own_iushr x0 (6 : Int32)) &&& (3 : Int32))), .val (.int ((own_iushr x0 (8 : Int32)) &&& (3 : Int32))), .val (.int ((own_iushr x0 (10 : Int32)) &&& (3 : Int32))), .val (.int ((own_iushr x0 (12 : Int32)) &&& (3 : Int32))), .val (.int (1 : Int32)), .val (.long (own_m0_264a x0 x3 x4)), .second, .unset, .unset] [(.int (2 : Int32)), (.int (own_ac (1 : Int32) (own_ab (fun _ => (0 : Int32)) ((own_iushr x0 (8 : Int32)) &&& (3 : Int32)).toInt.toNat) ((own_iushr x0 (10 : Int32)) &&& (3 : Int32)).toInt.toNat))]))
    refine own_of (fun _ kk => XS.icmpNo X11.here hx rfl (hb hby at_275) rfl (teq (own_ct2 x0 x3 x4 K c147)).2 kk) ?_
    show own_Fin _ _ _ _ _ _ _ (T11.setTop (mkF m 278 #[.val (.int x0), .val (.long x1), .second, .val (.long x2), .second, .val (.long x3), .second, .val (.long x4), .second, .val (.ref o), .val (.int (x0 &&& (3 : Int32))), .val (.int ((own_iushr x0 (2 : Int32)) &&& (3 : Int32))), .val (.int ((own_iushr x0 (4 : Int32)) &&& (3 : Int32))), .val (.int ((own_iushr x0 (6 : Int32)) &&& (3 : Int32))), .val (.int ((own_iushr x0 (8 : Int32)) &&& (3 : Int32))), .val (.int ((own_iushr x0 (10 : Int32)) &&& (3 : Int32))), .val (.int ((own_iushr x0 (12 : Int32)) &&& (3 : Int32))), .val (.int (1 : Int32)), .val (.long (own_m0_264a x0 x3 x4)), .second, .unset, .unset] []))
    refine own_of (fun _ kk => XS.aload X11.here hx rfl (hb hby at_278) rfl rfl kk) ?_
    show own_Fin _ _ _ _ _ _ _ (T11.setTop (mkF m 280 #[.val (.int x0), .val (.long x1), .second, .val (.long x2), .second, .val (.long x3), .second, .val (.long x4), .second, .val (.ref o), .val (.int (x0 &&& (3 : Int32))), .val (.int ((own_iushr x0 (2 : Int32)) &&& (3 : Int32))), .val (.int ((own_iushr x0 (4 : Int32)) &&& (3 : Int32))), .val (.int ((own_iushr x0 (6 : Int32)) &&& (3 : Int32))), .val (.int ((own_iushr x0 (8 : Int32)) &&& (3 : Int32))), .val (.int ((own_iushr x0 (10 : Int32)) &&& (3 : Int32))), .val (.int ((own_iushr x0 (12 : Int32)) &&& (3 : Int32))), .val (.int (1 : Int32)), .val (.long (own_m0_264a x0 x3 x4)), .second, .unset, .unset] [(.ref o)]))
    refine own_of (fun _ kk => XS.iconst X11.here hx rfl (hb hby at_280) kk) ?_
    show own_Fin _ _ _ _ _ _ _ (T11.setTop (mkF m 281 #[.val (.int x0), .val (.long x1), .second, .val (.long x2), .second, .val (.long x3), .second, .val (.long x4), .second, .val (.ref o), .val (.int (x0 &&& (3 : Int32))), .val (.int ((own_iushr x0 (2 : Int32)) &&& (3 : Int32))), .val (.int ((own_iushr x0 (4 : Int32)) &&& (3 : Int32))), .val (.int ((own_iushr x0 (6 : Int32)) &&& (3 : Int32))), .val (.int ((own_iushr x0 (8 : Int32)) &&& (3 : Int32))), .val (.int ((own_iushr x0 (10 : Int32)) &&& (3 : Int32))), .val (.int ((own_iushr x0 (12 : Int32)) &&& (3 : Int32))), .val (.int (1 : Int32)), .val (.long (own_m0_264a x0 x3 x4)), .second, .unset, .unset] [(.int (0 : Int32)), (.ref o)]))
    refine own_callV X11 hx hZ (y := (⟨"com/example/shardloom/shardloom/Ties", "key", "(I)I"⟩ : MethodName)) (z := (⟨"com/example/shardloom/shardloom/Ties", "key", "(I)I"⟩ : MethodName)) hown (hw _ (List.mem_of_getElem? (i := 35) rfl)) (hw _ (List.mem_of_getElem? (i := 36) rfl)) (notFace_of_selects (args := #[]) (mvT hZ (hw _ (List.mem_of_getElem? (i := 38) rfl)))) (hw _ (List.mem_of_getElem? (i := 38) rfl)) (hw _ (List.mem_of_getElem? (i := 37) rfl)) (hw _ (List.mem_of_getElem? (i := 2) rfl)) (hw _ (List.mem_of_getElem? (i := 39) rfl)) (by decide) e11 O4.1 (argsL := [(.int (0 : Int32))]) (met6 l Z a0 hw o (0 : Int32) (own_ac (1 : Int32) (own_ab (fun _ => (0 : Int32)) ((own_iushr x0 (8 : Int32)) &&& (3 : Int32)).toInt.toNat) ((own_iushr x0 (10 : Int32)) &&& (3 : Int32)).toInt.toNat) a1 a2 a3 (own_aw (own_aw (fun _ => (0 : Int64)) ((own_iushr x0 (8 : Int32)) &&& (3 : Int32)).toInt.toNat x3) ((own_iushr x0 (10 : Int32)) &&& (3 : Int32)).toInt.toNat x4) (own_ak (own_ak K (fun _ => (0 : Int32)) ((own_iushr x0 (8 : Int32)) &&& (3 : Int32)).toInt.toNat 0 ((own_iushr x0 (8 : Int32)) &&& (3 : Int32))) (own_ab (fun _ => (0 : Int32)) ((own_iushr x0 (8 : Int32)) &&& (3 : Int32)).toInt.toNat) ((own_iushr x0 (10 : Int32)) &&& (3 : Int32)).toInt.toNat 1 ((own_iushr x0 (10 : Int32)) &&& (3 : Int32))) (own_ab (own_ab (fun _ => (0 : Int32)) ((own_iushr x0 (8 : Int32)) &&& (3 : Int32)).toInt.toNat) ((own_iushr x0 (10 : Int32)) &&& (3 : Int32)).toInt.toNat) 0 ((own_iushr x0 (8 : Int32)) &&& (3 : Int32)) h4 n0 Z4 O4 (by decide) (by decide) (own_q281 x0 x3 x4 K c147)) (W := 0) (by decide) (by decide) (by decide) (by decide) (by rw [hml]; rfl) pd_2 rfl (rest := []) rfl (Nat.le_of_eq rfl) (hb hby at_281) ?_
    intro v12 T12 h12 L12 X12 e12 q12
    obtain ⟨rfl, qh12, rfl⟩ := q12
    rw [qh12] at e12
    have N12 := Fr.app N11 (Fr.nil n0)
    show own_Fin _ _ _ _ _ _ _ (T12.setTop (mkF m 284 #[.val (.int x0), .val (.long x1), .second, .val (.long x2), .second, .val (.long x3), .second, .val (.long x4), .second, .val (.ref o), .val (.int (x0 &&& (3 : Int32))), .val (.int ((own_iushr x0 (2 : Int32)) &&& (3 : Int32))), .val (.int ((own_iushr x0 (4 : Int32)) &&& (3 : Int32))), .val (.int ((own_iushr x0 (6 : Int32)) &&& (3 : Int32))), .val (.int ((own_iushr x0 (8 : Int32)) &&& (3 : Int32))), .val (.int ((own_iushr x0 (10 : Int32)) &&& (3 : Int32))), .val (.int ((own_iushr x0 (12 : Int32)) &&& (3 : Int32))), .val (.int (1 : Int32)), .val (.long (own_m0_264a x0 x3 x4)), .second, .unset, .unset] [(.int ((own_iushr x0 (8 : Int32)) &&& (3 : Int32)))]))
    refine own_of (fun _ kk => XS.iload X12.here hx rfl (hb hby at_284) rfl kk) ?_
    show own_Fin _ _ _ _ _ _ _ (T12.setTop (mkF m 286 #[.val (.int x0), .val (.long x1), .second, .val (.long x2), .second, .val (.long x3), .second, .val (.long x4), .second, .val (.ref o), .val (.int (x0 &&& (3 : Int32))), .val (.int ((own_iushr x0 (2 : Int32)) &&& (3 : Int32))), .val (.int ((own_iushr x0 (4 : Int32)) &&& (3 : Int32))), .val (.int ((own_iushr x0 (6 : Int32)) &&& (3 : Int32))), .val (.int ((own_iushr x0 (8 : Int32)) &&& (3 : Int32))), .val (.int ((own_iushr x0 (10 : Int32)) &&& (3 : Int32))), .val (.int ((own_iushr x0 (12 : Int32)) &&& (3 : Int32))), .val (.int (1 : Int32)), .val (.long (own_m0_264a x0 x3 x4)), .second, .unset, .unset] [(.int ((own_iushr x0 (8 : Int32)) &&& (3 : Int32))), (.int ((own_iushr x0 (8 : Int32)) &&& (3 : Int32)))]))
    refine own_of (fun _ kk => XS.icmpNo X12.here hx rfl (hb hby at_286) rfl (teq rfl).2 kk) ?_
    show own_Fin _ _ _ _ _ _ _ (T12.setTop (mkF m 289 #[.val (.int x0), .val (.long x1), .second, .val (.long x2), .second, .val (.long x3), .second, .val (.long x4), .second, .val (.ref o), .val (.int (x0 &&& (3 : Int32))), .val (.int ((own_iushr x0 (2 : Int32)) &&& (3 : Int32))), .val (.int ((own_iushr x0 (4 : Int32)) &&& (3 : Int32))), .val (.int ((own_iushr x0 (6 : Int32)) &&& (3 : Int32))), .val (.int ((own_iushr x0 (8 : Int32)) &&& (3 : Int32))), .val (.int ((own_iushr x0 (10 : Int32)) &&& (3 : Int32))), .val (.int ((own_iushr x0 (12 : Int32)) &&& (3 : Int32))), .val (.int (1 : Int32)), .val (.long (own_m0_264a x0 x3 x4)), .second, .unset, .unset] []))
    refine own_of (fun _ kk => XS.aload X12.here hx rfl (hb hby at_289) rfl rfl kk) ?_
    show own_Fin _ _ _ _ _ _ _ (T12.setTop (mkF m 291 #[.val (.int x0), .val (.long x1), .second, .val (.long x2), .second, .val (.long x3), .second, .val (.long x4), .second, .val (.ref o), .val (.int (x0 &&& (3 : Int32))), .val (.int ((own_iushr x0 (2 : Int32)) &&& (3 : Int32))), .val (.int ((own_iushr x0 (4 : Int32)) &&& (3 : Int32))), .val (.int ((own_iushr x0 (6 : Int32)) &&& (3 : Int32))), .val (.int ((own_iushr x0 (8 : Int32)) &&& (3 : Int32))), .val (.int ((own_iushr x0 (10 : Int32)) &&& (3 : Int32))), .val (.int ((own_iushr x0 (12 : Int32)) &&& (3 : Int32))), .val (.int (1 : Int32)), .val (.long (own_m0_264a x0 x3 x4)), .second, .unset, .unset] [(.ref o)]))
    refine own_of (fun _ kk => XS.iconst X12.here hx rfl (hb hby at_291) kk) ?_
    show own_Fin _ _ _ _ _ _ _ (T12.setTop (mkF m 292 #[.val (.int x0), .val (.long x1), .second, .val (.long x2), .second, .val (.long x3), .second, .val (.long x4), .second, .val (.ref o), .val (.int (x0 &&& (3 : Int32))), .val (.int ((own_iushr x0 (2 : Int32)) &&& (3 : Int32))), .val (.int ((own_iushr x0 (4 : Int32)) &&& (3 : Int32))), .val (.int ((own_iushr x0 (6 : Int32)) &&& (3 : Int32))), .val (.int ((own_iushr x0 (8 : Int32)) &&& (3 : Int32))), .val (.int ((own_iushr x0 (10 : Int32)) &&& (3 : Int32))), .val (.int ((own_iushr x0 (12 : Int32)) &&& (3 : Int32))), .val (.int (1 : Int32)), .val (.long (own_m0_264a x0 x3 x4)), .second, .unset, .unset] [(.int (1 : Int32)), (.ref o)]))
    refine own_callV X12 hx hZ (y := (⟨"com/example/shardloom/shardloom/Ties", "key", "(I)I"⟩ : MethodName)) (z := (⟨"com/example/shardloom/shardloom/Ties", "key", "(I)I"⟩ : MethodName)) hown (hw _ (List.mem_of_getElem? (i := 35) rfl)) (hw _ (List.mem_of_getElem? (i := 36) rfl)) (notFace_of_selects (args := #[]) (mvT hZ (hw _ (List.mem_of_getElem? (i := 38) rfl)))) (hw _ (List.mem_of_getElem? (i := 38) rfl)) (hw _ (List.mem_of_getElem? (i := 37) rfl)) (hw _ (List.mem_of_getElem? (i := 2) rfl)) (hw _ (List.mem_of_getElem? (i := 39) rfl)) (by decide) e12 O4.1 (argsL := [(.int (1 : Int32))]) (met6 l Z a0 hw o (1 : Int32) (own_ac (1 : Int32) (own_ab (fun _ => (0 : Int32)) ((own_iushr x0 (8 : Int32)) &&& (3 : Int32)).toInt.toNat) ((own_iushr x0 (10 : Int32)) &&& (3 : Int32)).toInt.toNat) a1 a2 a3 (own_aw (own_aw (fun _ => (0 : Int64)) ((own_iushr x0 (8 : Int32)) &&& (3 : Int32)).toInt.toNat x3) ((own_iushr x0 (10 : Int32)) &&& (3 : Int32)).toInt.toNat x4) (own_ak (own_ak K (fun _ => (0 : Int32)) ((own_iushr x0 (8 : Int32)) &&& (3 : Int32)).toInt.toNat 0 ((own_iushr x0 (8 : Int32)) &&& (3 : Int32))) (own_ab (fun _ => (0 : Int32)) ((own_iushr x0 (8 : Int32)) &&& (3 : Int32)).toInt.toNat) ((own_iushr x0 (10 : Int32)) &&& (3 : Int32)).toInt.toNat 1 ((own_iushr x0 (10 : Int32)) &&& (3 : Int32))) (own_ab (own_ab (fun _ => (0 : Int32)) ((own_iushr x0 (8 : Int32)) &&& (3 : Int32)).toInt.toNat) ((own_iushr x0 (10 : Int32)) &&& (3 : Int32)).toInt.toNat) 1 ((own_iushr x0 (10 : Int32)) &&& (3 : Int32)) h4 n0 Z4 O4 (by decide) (by decide) (own_q292 x0 x3 x4 K c147)) (W := 0) (by decide) (by decide) (by decide) (by decide) (by rw [hml]; rfl) pd_2 rfl (rest := []) rfl (Nat.le_of_eq rfl) (hb hby at_292) ?_
    intro v13 T13 h13 L13 X13 e13 q13
    obtain ⟨rfl, qh13, rfl⟩ := q13
    rw [qh13] at e13
    have N13 := Fr.app N12 (Fr.nil n0)
    show own_Fin _ _ _ _ _ _ _ (T13.setTop (mkF m 295 #[.val (.int x0), .val (.long x1), .second, .val (.long x2), .second, .val (.long x3), .second, .val (.long x4), .second, .val (.ref o), .val (.int (x0 &&& (3 : Int32))), .val (.int ((own_iushr x0 (2 : Int32)) &&& (3 : Int32))), .val (.int ((own_iushr x0 (4 : Int32)) &&& (3 : Int32))), .val (.int ((own_iushr x0 (6 : Int32)) &&& (3 : Int32))), .val (.int ((own_iushr x0 (8 : Int32)) &&& (3 : Int32))), .val (.int ((own_iushr x0 (10 : Int32)) &&& (3 : Int32))), .val (.int ((own_iushr x0 (12 : Int32)) &&& (3 : Int32))), .val (.int (1 : Int32)), .val (.long (own_m0_264a x0 x3 x4)), .second, .unset, .unset] [(.int ((own_iushr x0 (10 : Int32)) &&& (3 : Int32)))]))
    refine own_of (fun _ kk => XS.iload X13.here hx rfl (hb hby at_295) rfl kk) ?_
    show own_Fin _ _ _ _ _ _ _ (T13.setTop (mkF m 297 #[.val (.int x0), .val (.long x1), .second, .val (.long x2), .second, .val (.long x3), .second, .val (.long x4), .second, .val (.ref o), .val (.int (x0 &&& (3 : Int32))), .val (.int ((own_iushr x0 (2 : Int32)) &&& (3 : Int32))), .val (.int ((own_iushr x0 (4 : Int32)) &&& (3 : Int32))), .val (.int ((own_iushr x0 (6 : Int32)) &&& (3 : Int32))), .val (.int ((own_iushr x0 (8 : Int32)) &&& (3 : Int32))), .val (.int ((own_iushr x0 (10 : Int32)) &&& (3 : Int32))), .val (.int ((own_iushr x0 (12 : Int32)) &&& (3 : Int32))), .val (.int (1 : Int32)), .val (.long (own_m0_264a x0 x3 x4)), .second, .unset, .unset] [(.int ((own_iushr x0 (10 : Int32)) &&& (3 : Int32))), (.int ((own_iushr x0 (10 : Int32)) &&& (3 : Int32)))]))
    refine own_of (fun _ kk => XS.icmpNo X13.here hx rfl (hb hby at_297) rfl (teq rfl).2 kk) ?_
    show own_Fin _ _ _ _ _ _ _ (T13.setTop (mkF m 300 #[.val (.int x0), .val (.long x1), .second, .val (.long x2), .second, .val (.long x3), .second, .val (.long x4), .second, .val (.ref o), .val (.int (x0 &&& (3 : Int32))), .val (.int ((own_iushr x0 (2 : Int32)) &&& (3 : Int32))), .val (.int ((own_iushr x0 (4 : Int32)) &&& (3 : Int32))), .val (.int ((own_iushr x0 (6 : Int32)) &&& (3 : Int32))), .val (.int ((own_iushr x0 (8 : Int32)) &&& (3 : Int32))), .val (.int ((own_iushr x0 (10 : Int32)) &&& (3 : Int32))), .val (.int ((own_iushr x0 (12 : Int32)) &&& (3 : Int32))), .val (.int (1 : Int32)), .val (.long (own_m0_264a x0 x3 x4)), .second, .unset, .unset] []))
    refine own_of (fun _ kk => XS.aload X13.here hx rfl (hb hby at_300) rfl rfl kk) ?_
    show own_Fin _ _ _ _ _ _ _ (T13.setTop (mkF m 302 #[.val (.int x0), .val (.long x1), .second, .val (.long x2), .second, .val (.long x3), .second, .val (.long x4), .second, .val (.ref o), .val (.int (x0 &&& (3 : Int32))), .val (.int ((own_iushr x0 (2 : Int32)) &&& (3 : Int32))), .val (.int ((own_iushr x0 (4 : Int32)) &&& (3 : Int32))), .val (.int ((own_iushr x0 (6 : Int32)) &&& (3 : Int32))), .val (.int ((own_iushr x0 (8 : Int32)) &&& (3 : Int32))), .val (.int ((own_iushr x0 (10 : Int32)) &&& (3 : Int32))), .val (.int ((own_iushr x0 (12 : Int32)) &&& (3 : Int32))), .val (.int (1 : Int32)), .val (.long (own_m0_264a x0 x3 x4)), .second, .unset, .unset] [(.ref o)]))
    refine own_of (fun _ kk => XS.iload X13.here hx rfl (hb hby at_302) rfl kk) ?_
    show own_Fin _ _ _ _ _ _ _ (T13.setTop (mkF m 304 #[.val (.int x0), .val (.long x1), .second, .val (.long x2), .second, .val (.long x3), .second, .val (.long x4), .second, .val (.ref o), .val (.int (x0 &&& (3 : Int32))), .val (.int ((own_iushr x0 (2 : Int32)) &&& (3 : Int32))), .val (.int ((own_iushr x0 (4 : Int32)) &&& (3 : Int32))), .val (.int ((own_iushr x0 (6 : Int32)) &&& (3 : Int32))), .val (.int ((own_iushr x0 (8 : Int32)) &&& (3 : Int32))), .val (.int ((own_iushr x0 (10 : Int32)) &&& (3 : Int32))), .val (.int ((own_iushr x0 (12 : Int32)) &&& (3 : Int32))), .val (.int (1 : Int32)), .val (.long (own_m0_264a x0 x3 x4)), .second, .unset, .unset] [(.int ((own_iushr x0 (8 : Int32)) &&& (3 : Int32))), (.ref o)]))
    refine own_callV X13 hx hZ (y := (⟨"com/example/shardloom/shardloom/Ties", "weight", "(I)J"⟩ : MethodName)) (z := (⟨"com/example/shardloom/shardloom/Ties", "weight", "(I)J"⟩ : MethodName)) hown (hw _ (List.mem_of_getElem? (i := 40) rfl)) (hw _ (List.mem_of_getElem? (i := 41) rfl)) (notFace_of_selects (args := #[]) (mvT hZ (hw _ (List.mem_of_getElem? (i := 43) rfl)))) (hw _ (List.mem_of_getElem? (i := 43) rfl)) (hw _ (List.mem_of_getElem? (i := 42) rfl)) (hw _ (List.mem_of_getElem? (i := 2) rfl)) (hw _ (List.mem_of_getElem? (i := 44) rfl)) (by decide) e13 O4.1 (argsL := [(.int ((own_iushr x0 (8 : Int32)) &&& (3 : Int32)))]) (met7 l Z a0 hw o ((own_iushr x0 (8 : Int32)) &&& (3 : Int32)) (own_ac (1 : Int32) (own_ab (fun _ => (0 : Int32)) ((own_iushr x0 (8 : Int32)) &&& (3 : Int32)).toInt.toNat) ((own_iushr x0 (10 : Int32)) &&& (3 : Int32)).toInt.toNat) a1 a2 a3 (own_aw (own_aw (fun _ => (0 : Int64)) ((own_iushr x0 (8 : Int32)) &&& (3 : Int32)).toInt.toNat x3) ((own_iushr x0 (10 : Int32)) &&& (3 : Int32)).toInt.toNat x4) (own_ak (own_ak K (fun _ => (0 : Int32)) ((own_iushr x0 (8 : Int32)) &&& (3 : Int32)).toInt.toNat 0 ((own_iushr x0 (8 : Int32)) &&& (3 : Int32))) (own_ab (fun _ => (0 : Int32)) ((own_iushr x0 (8 : Int32)) &&& (3 : Int32)).toInt.toNat) ((own_iushr x0 (10 : Int32)) &&& (3 : Int32)).toInt.toNat 1 ((own_iushr x0 (10 : Int32)) &&& (3 : Int32))) (own_ab (own_ab (fun _ => (0 : Int32)) ((own_iushr x0 (8 : Int32)) &&& (3 : Int32)).toInt.toNat) ((own_iushr x0 (10 : Int32)) &&& (3 : Int32)).toInt.toNat) ((own_iushr x0 (8 : Int32)) &&& (3 : Int32)).toInt.toNat x3 h4 n0 Z4 O4 (own_k3 _).1 (own_k3 _).2 (own_q304 x0 x3 x4 K c147)) (W := 0) (by decide) (by decide) (by decide) (by decide) (by rw [hml]; rfl) pd_3 rfl (rest := []) rfl (Nat.le_of_eq rfl) (hb hby at_304) ?_
    intro v14 T14 h14 L14 X14 e14 q14
    obtain ⟨rfl, qh14, rfl⟩ := q14
    rw [qh14] at e14
    have N14 := Fr.app N13 (Fr.nil n0)
    show own_Fin _ _ _ _ _ _ _ (T14.setTop (mkF m 307 #[.val (.int x0), .val (.long x1), .second, .val (.long x2), .second, .val (.long x3), .second, .val (.long x4), .second, .val (.ref o), .val (.int (x0 &&& (3 : Int32))), .val (.int ((own_iushr x0 (2 : Int32)) &&& (3 : Int32))), .val (.int ((own_iushr x0 (4 : Int32)) &&& (3 : Int32))), .val (.int ((own_iushr x0 (6 : Int32)) &&& (3 : Int32))), .val (.int ((own_iushr x0 (8 : Int32)) &&& (3 : Int32))), .val (.int ((own_iushr x0 (10 : Int32)) &&& (3 : Int32))), .val (.int ((own_iushr x0 (12 : Int32)) &&& (3 : Int32))), .val (.int (1 : Int32)), .val (.long (own_m0_264a x0 x3 x4)), .second, .unset, .unset] [(.long x3)]))
    refine own_of (fun _ kk => XS.lload X14.here hx rfl (hb hby at_307) rfl kk) ?_
    show own_Fin _ _ _ _ _ _ _ (T14.setTop (mkF m 309 #[.val (.int x0), .val (.long x1), .second, .val (.long x2), .second, .val (.long x3), .second, .val (.long x4), .second, .val (.ref o), .val (.int (x0 &&& (3 : Int32))), .val (.int ((own_iushr x0 (2 : Int32)) &&& (3 : Int32))), .val (.int ((own_iushr x0 (4 : Int32)) &&& (3 : Int32))), .val (.int ((own_iushr x0 (6 : Int32)) &&& (3 : Int32))), .val (.int ((own_iushr x0 (8 : Int32)) &&& (3 : Int32))), .val (.int ((own_iushr x0 (10 : Int32)) &&& (3 : Int32))), .val (.int ((own_iushr x0 (12 : Int32)) &&& (3 : Int32))), .val (.int (1 : Int32)), .val (.long (own_m0_264a x0 x3 x4)), .second, .unset, .unset] [(.long x3), (.long x3)]))
    refine own_of (fun _ kk => XS.lcmp X14.here hx rfl (hb hby at_309) rfl kk) ?_
    show own_Fin _ _ _ _ _ _ _ (T14.setTop (mkF m 310 #[.val (.int x0), .val (.long x1), .second, .val (.long x2), .second, .val (.long x3), .second, .val (.long x4), .second, .val (.ref o), .val (.int (x0 &&& (3 : Int32))), .val (.int ((own_iushr x0 (2 : Int32)) &&& (3 : Int32))), .val (.int ((own_iushr x0 (4 : Int32)) &&& (3 : Int32))), .val (.int ((own_iushr x0 (6 : Int32)) &&& (3 : Int32))), .val (.int ((own_iushr x0 (8 : Int32)) &&& (3 : Int32))), .val (.int ((own_iushr x0 (10 : Int32)) &&& (3 : Int32))), .val (.int ((own_iushr x0 (12 : Int32)) &&& (3 : Int32))), .val (.int (1 : Int32)), .val (.long (own_m0_264a x0 x3 x4)), .second, .unset, .unset] [(.int (lcmpW x3 x3))]))
    refine own_of (fun _ kk => XS.ifNo X14.here hx rfl (hb hby at_310) rfl ((if0 _ _).trans (teq ((lw_eq _ _).mpr rfl)).2) kk) ?_
    show own_Fin _ _ _ _ _ _ _ (T14.setTop (mkF m 313 #[.val (.int x0), .val (.long x1), .second, .val (.long x2), .second, .val (.long x3), .second, .val (.long x4), .second, .val (.ref o), .val (.int (x0 &&& (3 : Int32))), .val (.int ((own_iushr x0 (2 : Int32)) &&& (3 : Int32))), .val (.int ((own_iushr x0 (4 : Int32)) &&& (3 : Int32))), .val (.int ((own_iushr x0 (6 : Int32)) &&& (3 : Int32))), .val (.int ((own_iushr x0 (8 : Int32)) &&& (3 : Int32))), .val (.int ((own_iushr x0 (10 : Int32)) &&& (3 : Int32))), .val (.int ((own_iushr x0 (12 : Int32)) &&& (3 : Int32))), .val (.int (1 : Int32)), .val (.long (own_m0_264a x0 x3 x4)), .second, .unset, .unset] []))
    refine own_of (fun _ kk => XS.aload X14.here hx rfl (hb hby at_313) rfl rfl kk) ?_
    show own_Fin _ _ _ _ _ _ _ (T14.setTop (mkF m 315 #[.val (.int x0), .val (.long x1), .second, .val (.long x2), .second, .val (.long x3), .second, .val (.long x4), .second, .val (.ref o), .val (.int (x0 &&& (3 : Int32))), .val (.int ((own_iushr x0 (2 : Int32)) &&& (3 : Int32))), .val (.int ((own_iushr x0 (4 : Int32)) &&& (3 : Int32))), .val (.int ((own_iushr x0 (6 : Int32)) &&& (3 : Int32))), .val (.int ((own_iushr x0 (8 : Int32)) &&& (3 : Int32))), .val (.int ((own_iushr x0 (10 : Int32)) &&& (3 : Int32))), .val (.int ((own_iushr x0 (12 : Int32)) &&& (3 : Int32))), .val (.int (1 : Int32)), .val (.long (own_m0_264a x0 x3 x4)), .second, .unset, .unset] [(.ref o)]))
    refine own_of (fun _ kk => XS.iload X14.here hx rfl (hb hby at_315) rfl kk) ?_
    show own_Fin _ _ _ _ _ _ _ (T14.setTop (mkF m 317 #[.val (.int x0), .val (.long x1), .second, .val (.long x2), .second, .val (.long x3), .second, .val (.long x4), .second, .val (.ref o), .val (.int (x0 &&& (3 : Int32))), .val (.int ((own_iushr x0 (2 : Int32)) &&& (3 : Int32))), .val (.int ((own_iushr x0 (4 : Int32)) &&& (3 : Int32))), .val (.int ((own_iushr x0 (6 : Int32)) &&& (3 : Int32))), .val (.int ((own_iushr x0 (8 : Int32)) &&& (3 : Int32))), .val (.int ((own_iushr x0 (10 : Int32)) &&& (3 : Int32))), .val (.int ((own_iushr x0 (12 : Int32)) &&& (3 : Int32))), .val (.int (1 : Int32)), .val (.long (own_m0_264a x0 x3 x4)), .second, .unset, .unset] [(.int ((own_iushr x0 (10 : Int32)) &&& (3 : Int32))), (.ref o)]))
    refine own_callV X14 hx hZ (y := (⟨"com/example/shardloom/shardloom/Ties", "weight", "(I)J"⟩ : MethodName)) (z := (⟨"com/example/shardloom/shardloom/Ties", "weight", "(I)J"⟩ : MethodName)) hown (hw _ (List.mem_of_getElem? (i := 40) rfl)) (hw _ (List.mem_of_getElem? (i := 41) rfl)) (notFace_of_selects (args := #[]) (mvT hZ (hw _ (List.mem_of_getElem? (i := 43) rfl)))) (hw _ (List.mem_of_getElem? (i := 43) rfl)) (hw _ (List.mem_of_getElem? (i := 42) rfl)) (hw _ (List.mem_of_getElem? (i := 2) rfl)) (hw _ (List.mem_of_getElem? (i := 44) rfl)) (by decide) e14 O4.1 (argsL := [(.int ((own_iushr x0 (10 : Int32)) &&& (3 : Int32)))]) (met7 l Z a0 hw o ((own_iushr x0 (10 : Int32)) &&& (3 : Int32)) (own_ac (1 : Int32) (own_ab (fun _ => (0 : Int32)) ((own_iushr x0 (8 : Int32)) &&& (3 : Int32)).toInt.toNat) ((own_iushr x0 (10 : Int32)) &&& (3 : Int32)).toInt.toNat) a1 a2 a3 (own_aw (own_aw (fun _ => (0 : Int64)) ((own_iushr x0 (8 : Int32)) &&& (3 : Int32)).toInt.toNat x3) ((own_iushr x0 (10 : Int32)) &&& (3 : Int32)).toInt.toNat x4) (own_ak (own_ak K (fun _ => (0 : Int32)) ((own_iushr x0 (8 : Int32)) &&& (3 : Int32)).toInt.toNat 0 ((own_iushr x0 (8 : Int32)) &&& (3 : Int32))) (own_ab (fun _ => (0 : Int32)) ((own_iushr x0 (8 : Int32)) &&& (3 : Int32)).toInt.toNat) ((own_iushr x0 (10 : Int32)) &&& (3 : Int32)).toInt.toNat 1 ((own_iushr x0 (10 : Int32)) &&& (3 : Int32))) (own_ab (own_ab (fun _ => (0 : Int32)) ((own_iushr x0 (8 : Int32)) &&& (3 : Int32)).toInt.toNat) ((own_iushr x0 (10 : Int32)) &&& (3 : Int32)).toInt.toNat) ((own_iushr x0 (10 : Int32)) &&& (3 : Int32)).toInt.toNat x4 h4 n0 Z4 O4 (own_k3 _).1 (own_k3 _).2 (own_q317 x0 x3 x4 K c147)) (W := 0) (by decide) (by decide) (by decide) (by decide) (by rw [hml]; rfl) pd_3 rfl (rest := []) rfl (Nat.le_of_eq rfl) (hb hby at_317) ?_
    intro v15 T15 h15 L15 X15 e15 q15
    obtain ⟨rfl, qh15, rfl⟩ := q15
    rw [qh15] at e15
    have N15 := Fr.app N14 (Fr.nil n0)
    show own_Fin _ _ _ _ _ _ _ (T15.setTop (mkF m 320 #[.val (.int x0), .val (.long x1), .second, .val (.long x2), .second, .val (.long x3), .second, .val (.long x4), .second, .val (.ref o), .val (.int (x0 &&& (3 : Int32))), .val (.int ((own_iushr x0 (2 : Int32)) &&& (3 : Int32))), .val (.int ((own_iushr x0 (4 : Int32)) &&& (3 : Int32))), .val (.int ((own_iushr x0 (6 : Int32)) &&& (3 : Int32))), .val (.int ((own_iushr x0 (8 : Int32)) &&& (3 : Int32))), .val (.int ((own_iushr x0 (10 : Int32)) &&& (3 : Int32))), .val (.int ((own_iushr x0 (12 : Int32)) &&& (3 : Int32))), .val (.int (1 : Int32)), .val (.long (own_m0_264a x0 x3 x4)), .second, .unset, .unset] [(.long x4)]))
    refine own_of (fun _ kk => XS.lload X15.here hx rfl (hb hby at_320) rfl kk) ?_
    show own_Fin _ _ _ _ _ _ _ (T15.setTop (mkF m 322 #[.val (.int x0), .val (.long x1), .second, .val (.long x2), .second, .val (.long x3), .second, .val (.long x4), .second, .val (.ref o), .val (.int (x0 &&& (3 : Int32))), .val (.int ((own_iushr x0 (2 : Int32)) &&& (3 : Int32))), .val (.int ((own_iushr x0 (4 : Int32)) &&& (3 : Int32))), .val (.int ((own_iushr x0 (6 : Int32)) &&& (3 : Int32))), .val (.int ((own_iushr x0 (8 : Int32)) &&& (3 : Int32))), .val (.int ((own_iushr x0 (10 : Int32)) &&& (3 : Int32))), .val (.int ((own_iushr x0 (12 : Int32)) &&& (3 : Int32))), .val (.int (1 : Int32)), .val (.long (own_m0_264a x0 x3 x4)), .second, .unset, .unset] [(.long x4), (.long x4)]))
    refine own_of (fun _ kk => XS.lcmp X15.here hx rfl (hb hby at_322) rfl kk) ?_
    show own_Fin _ _ _ _ _ _ _ (T15.setTop (mkF m 323 #[.val (.int x0), .val (.long x1), .second, .val (.long x2), .second, .val (.long x3), .second, .val (.long x4), .second, .val (.ref o), .val (.int (x0 &&& (3 : Int32))), .val (.int ((own_iushr x0 (2 : Int32)) &&& (3 : Int32))), .val (.int ((own_iushr x0 (4 : Int32)) &&& (3 : Int32))), .val (.int ((own_iushr x0 (6 : Int32)) &&& (3 : Int32))), .val (.int ((own_iushr x0 (8 : Int32)) &&& (3 : Int32))), .val (.int ((own_iushr x0 (10 : Int32)) &&& (3 : Int32))), .val (.int ((own_iushr x0 (12 : Int32)) &&& (3 : Int32))), .val (.int (1 : Int32)), .val (.long (own_m0_264a x0 x3 x4)), .second, .unset, .unset] [(.int (lcmpW x4 x4))]))
    refine own_of (fun _ kk => XS.ifNo X15.here hx rfl (hb hby at_323) rfl ((if0 _ _).trans (teq ((lw_eq _ _).mpr rfl)).2) kk) ?_
    show own_Fin _ _ _ _ _ _ _ (T15.setTop (mkF m 326 #[.val (.int x0), .val (.long x1), .second, .val (.long x2), .second, .val (.long x3), .second, .val (.long x4), .second, .val (.ref o), .val (.int (x0 &&& (3 : Int32))), .val (.int ((own_iushr x0 (2 : Int32)) &&& (3 : Int32))), .val (.int ((own_iushr x0 (4 : Int32)) &&& (3 : Int32))), .val (.int ((own_iushr x0 (6 : Int32)) &&& (3 : Int32))), .val (.int ((own_iushr x0 (8 : Int32)) &&& (3 : Int32))), .val (.int ((own_iushr x0 (10 : Int32)) &&& (3 : Int32))), .val (.int ((own_iushr x0 (12 : Int32)) &&& (3 : Int32))), .val (.int (1 : Int32)), .val (.long (own_m0_264a x0 x3 x4)), .second, .unset, .unset] []))
    refine own_of (fun _ kk => XS.aload X15.here hx rfl (hb hby at_326) rfl rfl kk) ?_
    show own_Fin _ _ _ _ _ _ _ (T15.setTop (mkF m 328 #[.val (.int x0), .val (.long x1), .second, .val (.long x2), .second, .val (.long x3), .second, .val (.long x4), .second, .val (.ref o), .val (.int (x0 &&& (3 : Int32))), .val (.int ((own_iushr x0 (2 : Int32)) &&& (3 : Int32))), .val (.int ((own_iushr x0 (4 : Int32)) &&& (3 : Int32))), .val (.int ((own_iushr x0 (6 : Int32)) &&& (3 : Int32))), .val (.int ((own_iushr x0 (8 : Int32)) &&& (3 : Int32))), .val (.int ((own_iushr x0 (10 : Int32)) &&& (3 : Int32))), .val (.int ((own_iushr x0 (12 : Int32)) &&& (3 : Int32))), .val (.int (1 : Int32)), .val (.long (own_m0_264a x0 x3 x4)), .second, .unset, .unset] [(.ref o)]))
    refine own_of (fun _ kk => XS.iload X15.here hx rfl (hb hby at_328) rfl kk) ?_
    show own_Fin _ _ _ _ _ _ _ (T15.setTop (mkF m 330 #[.val (.int x0), .val (.long x1), .second, .val (.long x2), .second, .val (.long x3), .second, .val (.long x4), .second, .val (.ref o), .val (.int (x0 &&& (3 : Int32))), .val (.int ((own_iushr x0 (2 : Int32)) &&& (3 : Int32))), .val (.int ((own_iushr x0 (4 : Int32)) &&& (3 : Int32))), .val (.int ((own_iushr x0 (6 : Int32)) &&& (3 : Int32))), .val (.int ((own_iushr x0 (8 : Int32)) &&& (3 : Int32))), .val (.int ((own_iushr x0 (10 : Int32)) &&& (3 : Int32))), .val (.int ((own_iushr x0 (12 : Int32)) &&& (3 : Int32))), .val (.int (1 : Int32)), .val (.long (own_m0_264a x0 x3 x4)), .second, .unset, .unset] [(.int ((own_iushr x0 (12 : Int32)) &&& (3 : Int32))), (.ref o)]))
    refine own_callV X15 hx hZ (y := (⟨"com/example/shardloom/shardloom/Ties", "weight", "(I)J"⟩ : MethodName)) (z := (⟨"com/example/shardloom/shardloom/Ties", "weight", "(I)J"⟩ : MethodName)) hown (hw _ (List.mem_of_getElem? (i := 40) rfl)) (hw _ (List.mem_of_getElem? (i := 41) rfl)) (notFace_of_selects (args := #[]) (mvT hZ (hw _ (List.mem_of_getElem? (i := 43) rfl)))) (hw _ (List.mem_of_getElem? (i := 43) rfl)) (hw _ (List.mem_of_getElem? (i := 42) rfl)) (hw _ (List.mem_of_getElem? (i := 2) rfl)) (hw _ (List.mem_of_getElem? (i := 44) rfl)) (by decide) e15 O4.1 (argsL := [(.int ((own_iushr x0 (12 : Int32)) &&& (3 : Int32)))]) (met7 l Z a0 hw o ((own_iushr x0 (12 : Int32)) &&& (3 : Int32)) (own_ac (1 : Int32) (own_ab (fun _ => (0 : Int32)) ((own_iushr x0 (8 : Int32)) &&& (3 : Int32)).toInt.toNat) ((own_iushr x0 (10 : Int32)) &&& (3 : Int32)).toInt.toNat) a1 a2 a3 (own_aw (own_aw (fun _ => (0 : Int64)) ((own_iushr x0 (8 : Int32)) &&& (3 : Int32)).toInt.toNat x3) ((own_iushr x0 (10 : Int32)) &&& (3 : Int32)).toInt.toNat x4) (own_ak (own_ak K (fun _ => (0 : Int32)) ((own_iushr x0 (8 : Int32)) &&& (3 : Int32)).toInt.toNat 0 ((own_iushr x0 (8 : Int32)) &&& (3 : Int32))) (own_ab (fun _ => (0 : Int32)) ((own_iushr x0 (8 : Int32)) &&& (3 : Int32)).toInt.toNat) ((own_iushr x0 (10 : Int32)) &&& (3 : Int32)).toInt.toNat 1 ((own_iushr x0 (10 : Int32)) &&& (3 : Int32))) (own_ab (own_ab (fun _ => (0 : Int32)) ((own_iushr x0 (8 : Int32)) &&& (3 : Int32)).toInt.toNat) ((own_iushr x0 (10 : Int32)) &&& (3 : Int32)).toInt.toNat) ((own_iushr x0 (12 : Int32)) &&& (3 : Int32)).toInt.toNat (own_m0_264a x0 x3 x4) h4 n0 Z4 O4 (own_k3 _).1 (own_k3 _).2 (own_q330 x0 x3 x4 K c147)) (W := 0) (by decide) (by decide) (by decide) (by decide) (by rw [hml]; rfl) pd_3 rfl (rest := []) rfl (Nat.le_of_eq rfl) (hb hby at_330) ?_
    intro v16 T16 h16 L16 X16 e16 q16
    obtain ⟨rfl, qh16, rfl⟩ := q16
    rw [qh16] at e16
    have N16 := Fr.app N15 (Fr.nil n0)
    show own_Fin _ _ _ _ _ _ _ (T16.setTop (mkF m 333 #[.val (.int x0), .val (.long x1), .second, .val (.long x2), .second, .val (.long x3), .second, .val (.long x4), .second, .val (.ref o), .val (.int (x0 &&& (3 : Int32))), .val (.int ((own_iushr x0 (2 : Int32)) &&& (3 : Int32))), .val (.int ((own_iushr x0 (4 : Int32)) &&& (3 : Int32))), .val (.int ((own_iushr x0 (6 : Int32)) &&& (3 : Int32))), .val (.int ((own_iushr x0 (8 : Int32)) &&& (3 : Int32))), .val (.int ((own_iushr x0 (10 : Int32)) &&& (3 : Int32))), .val (.int ((own_iushr x0 (12 : Int32)) &&& (3 : Int32))), .val (.int (1 : Int32)), .val (.long (own_m0_264a x0 x3 x4)), .second, .unset, .unset] [(.long (own_m0_264a x0 x3 x4))]))
    refine own_of (fun _ kk => XS.lload X16.here hx rfl (hb hby at_333) rfl kk) ?_
    show own_Fin _ _ _ _ _ _ _ (T16.setTop (mkF m 335 #[.val (.int x0), .val (.long x1), .second, .val (.long x2), .second, .val (.long x3), .second, .val (.long x4), .second, .val (.ref o), .val (.int (x0 &&& (3 : Int32))), .val (.int ((own_iushr x0 (2 : Int32)) &&& (3 : Int32))), .val (.int ((own_iushr x0 (4 : Int32)) &&& (3 : Int32))), .val (.int ((own_iushr x0 (6 : Int32)) &&& (3 : Int32))), .val (.int ((own_iushr x0 (8 : Int32)) &&& (3 : Int32))), .val (.int ((own_iushr x0 (10 : Int32)) &&& (3 : Int32))), .val (.int ((own_iushr x0 (12 : Int32)) &&& (3 : Int32))), .val (.int (1 : Int32)), .val (.long (own_m0_264a x0 x3 x4)), .second, .unset, .unset] [(.long (own_m0_264a x0 x3 x4)), (.long (own_m0_264a x0 x3 x4))]))
    refine own_of (fun _ kk => XS.lcmp X16.here hx rfl (hb hby at_335) rfl kk) ?_
    show own_Fin _ _ _ _ _ _ _ (T16.setTop (mkF m 336 #[.val (.int x0), .val (.long x1), .second, .val (.long x2), .second, .val (.long x3), .second, .val (.long x4), .second, .val (.ref o), .val (.int (x0 &&& (3 : Int32))), .val (.int ((own_iushr x0 (2 : Int32)) &&& (3 : Int32))), .val (.int ((own_iushr x0 (4 : Int32)) &&& (3 : Int32))), .val (.int ((own_iushr x0 (6 : Int32)) &&& (3 : Int32))), .val (.int ((own_iushr x0 (8 : Int32)) &&& (3 : Int32))), .val (.int ((own_iushr x0 (10 : Int32)) &&& (3 : Int32))), .val (.int ((own_iushr x0 (12 : Int32)) &&& (3 : Int32))), .val (.int (1 : Int32)), .val (.long (own_m0_264a x0 x3 x4)), .second, .unset, .unset] [(.int (lcmpW (own_m0_264a x0 x3 x4) (own_m0_264a x0 x3 x4)))]))
    refine own_of (fun _ kk => XS.ifNo X16.here hx rfl (hb hby at_336) rfl ((if0 _ _).trans (teq ((lw_eq _ _).mpr rfl)).2) kk) ?_
    show own_Fin _ _ _ _ _ _ _ (T16.setTop (mkF m 339 #[.val (.int x0), .val (.long x1), .second, .val (.long x2), .second, .val (.long x3), .second, .val (.long x4), .second, .val (.ref o), .val (.int (x0 &&& (3 : Int32))), .val (.int ((own_iushr x0 (2 : Int32)) &&& (3 : Int32))), .val (.int ((own_iushr x0 (4 : Int32)) &&& (3 : Int32))), .val (.int ((own_iushr x0 (6 : Int32)) &&& (3 : Int32))), .val (.int ((own_iushr x0 (8 : Int32)) &&& (3 : Int32))), .val (.int ((own_iushr x0 (10 : Int32)) &&& (3 : Int32))), .val (.int ((own_iushr x0 (12 : Int32)) &&& (3 : Int32))), .val (.int (1 : Int32)), .val (.long (own_m0_264a x0 x3 x4)), .second, .unset, .unset] []))
    refine own_of (fun _ kk => XS.iconst X16.here hx rfl (hb hby at_339) kk) ?_
    show own_Fin _ _ _ _ _ _ _ (T16.setTop (mkF m 340 #[.val (.int x0), .val (.long x1), .second, .val (.long x2), .second, .val (.long x3), .second, .val (.long x4), .second, .val (.ref o), .val (.int (x0 &&& (3 : Int32))), .val (.int ((own_iushr x0 (2 : Int32)) &&& (3 : Int32))), .val (.int ((own_iushr x0 (4 : Int32)) &&& (3 : Int32))), .val (.int ((own_iushr x0 (6 : Int32)) &&& (3 : Int32))), .val (.int ((own_iushr x0 (8 : Int32)) &&& (3 : Int32))), .val (.int ((own_iushr x0 (10 : Int32)) &&& (3 : Int32))), .val (.int ((own_iushr x0 (12 : Int32)) &&& (3 : Int32))), .val (.int (1 : Int32)), .val (.long (own_m0_264a x0 x3 x4)), .second, .unset, .unset] [(.int (1 : Int32))]))
    refine own_of (fun _ kk => XS.goto X16.here hx rfl (pc0 := 340) (pc' := 344) rfl (hb hby at_340) (by decide) (by decide) kk) ?_
    show own_Fin _ _ _ _ _ _ _ (T16.setTop (mkF m 344 #[.val (.int x0), .val (.long x1), .second, .val (.long x2), .second, .val (.long x3), .second, .val (.long x4), .second, .val (.ref o), .val (.int (x0 &&& (3 : Int32))), .val (.int ((own_iushr x0 (2 : Int32)) &&& (3 : Int32))), .val (.int ((own_iushr x0 (4 : Int32)) &&& (3 : Int32))), .val (.int ((own_iushr x0 (6 : Int32)) &&& (3 : Int32))), .val (.int ((own_iushr x0 (8 : Int32)) &&& (3 : Int32))), .val (.int ((own_iushr x0 (10 : Int32)) &&& (3 : Int32))), .val (.int ((own_iushr x0 (12 : Int32)) &&& (3 : Int32))), .val (.int (1 : Int32)), .val (.long (own_m0_264a x0 x3 x4)), .second, .unset, .unset] [(.int (1 : Int32))]))
    refine own_of (fun _ kk => XS.istore X16.here hx rfl (hb hby at_344) rfl (l' := #[.val (.int x0), .val (.long x1), .second, .val (.long x2), .second, .val (.long x3), .second, .val (.long x4), .second, .val (.ref o), .val (.int (x0 &&& (3 : Int32))), .val (.int ((own_iushr x0 (2 : Int32)) &&& (3 : Int32))), .val (.int ((own_iushr x0 (4 : Int32)) &&& (3 : Int32))), .val (.int ((own_iushr x0 (6 : Int32)) &&& (3 : Int32))), .val (.int ((own_iushr x0 (8 : Int32)) &&& (3 : Int32))), .val (.int ((own_iushr x0 (10 : Int32)) &&& (3 : Int32))), .val (.int ((own_iushr x0 (12 : Int32)) &&& (3 : Int32))), .val (.int (1 : Int32)), .val (.long (own_m0_264a x0 x3 x4)), .second, .unset, .unset]) rfl kk) ?_
    show own_Fin _ _ _ _ _ _ _ (T16.setTop (mkF m 346 #[.val (.int x0), .val (.long x1), .second, .val (.long x2), .second, .val (.long x3), .second, .val (.long x4), .second, .val (.ref o), .val (.int (x0 &&& (3 : Int32))), .val (.int ((own_iushr x0 (2 : Int32)) &&& (3 : Int32))), .val (.int ((own_iushr x0 (4 : Int32)) &&& (3 : Int32))), .val (.int ((own_iushr x0 (6 : Int32)) &&& (3 : Int32))), .val (.int ((own_iushr x0 (8 : Int32)) &&& (3 : Int32))), .val (.int ((own_iushr x0 (10 : Int32)) &&& (3 : Int32))), .val (.int ((own_iushr x0 (12 : Int32)) &&& (3 : Int32))), .val (.int (1 : Int32)), .val (.long (own_m0_264a x0 x3 x4)), .second, .unset, .unset] []))
    refine own_of (fun _ kk => XS.iload X16.here hx rfl (hb hby at_346) rfl kk) ?_
    show own_Fin _ _ _ _ _ _ _ (T16.setTop (mkF m 348 #[.val (.int x0), .val (.long x1), .second, .val (.long x2), .second, .val (.long x3), .second, .val (.long x4), .second, .val (.ref o), .val (.int (x0 &&& (3 : Int32))), .val (.int ((own_iushr x0 (2 : Int32)) &&& (3 : Int32))), .val (.int ((own_iushr x0 (4 : Int32)) &&& (3 : Int32))), .val (.int ((own_iushr x0 (6 : Int32)) &&& (3 : Int32))), .val (.int ((own_iushr x0 (8 : Int32)) &&& (3 : Int32))), .val (.int ((own_iushr x0 (10 : Int32)) &&& (3 : Int32))), .val (.int ((own_iushr x0 (12 : Int32)) &&& (3 : Int32))), .val (.int (1 : Int32)), .val (.long (own_m0_264a x0 x3 x4)), .second, .unset, .unset] [(.int (1 : Int32))]))
    exact own_retN X16 hx hlk e16 (t := .boolean) hret (by simp) (hb hby at_348) (by decide) (by decide) (z' := (1 : Int32)) (by decide) ⟨rfl, N16⟩
set_option maxRecDepth 65536 in
set_option maxHeartbeats 40000000 in
theorem own_law (l : Launch) (Z : State) (a0 : Array Value) (hw : ∀ d ∈ tables_1, d.before a0 Z = true) (x0 : Int32) (x1 : Int64) (x2 : Int64) (x3 : Int64) (x4 : Int64) (h0 : Heap) (n0 : Nat) (Z0 : n0 ≤ h0.size) :
    own_Met l Z x code maxLocals ret room_1 #[(.int x0), (.long x1), (.long x2), (.long x3), (.long x4)] h0 (fun v h L => v = some (.int 1) ∧ Fr n0 L) := by
  refine own_met pn_0 ?_
  intro p e s m below meth c T0 X0 hx hby hml hown hZ e0 hret hlk hnm
  replace hown : s.vm.findClass "com/example/shardloom/shardloom/TiesClearPinLaw" = some m.cls := hown
  replace hml : c.maxLocals = 22 := hml
  rw [ef_0 m x0 x1 x2 x3 x4]
  have N0 := Fr.nil n0
  show own_Fin _ _ _ _ _ _ _ (T0.setTop (mkF m 0 #[.val (.int x0), .val (.long x1), .second, .val (.long x2), .second, .val (.long x3), .second, .val (.long x4), .second, .unset, .unset, .unset, .unset, .unset, .unset, .unset, .unset, .unset, .unset, .unset, .unset, .unset] []))
  refine own_newO X0 hx hZ hown (hw _ (List.mem_of_getElem? (i := 0) rfl)) (hw _ (List.mem_of_getElem? (i := 1) rfl)) (hw _ (List.mem_of_getElem? (i := 2) rfl)) e0 (hb hby at_0) (by decide) (by decide) ?_
  intro T1 h1 b1 X1 e1 E1 g1 A1 D1
  have Z1 : n0 ≤ h1.size := Nat.le_trans Z0 E1.1
  have ge_b1 : n0 ≤ b1 := by rw [g1]; exact Z0
  have Fb1_weight : Fld Z h1 b1 "com/example/shardloom/shardloom/Ties" "weight" "[J" .null := D1 (Or.inr (hw _ (List.mem_of_getElem? (i := 11) rfl))) (ty := (.array .long)) (by decide)
  have Fb1_keys : Fld Z h1 b1 "com/example/shardloom/shardloom/Ties" "keys" "[I" .null := D1 (Or.inr (hw _ (List.mem_of_getElem? (i := 14) rfl))) (ty := (.array .int)) (by decide)
  have Fb1_listed : Fld Z h1 b1 "com/example/shardloom/shardloom/Ties" "listed" "[Z" .null := D1 (Or.inr (hw _ (List.mem_of_getElem? (i := 17) rfl))) (ty := (.array .boolean)) (by decide)
  have Fb1_count : Fld Z h1 b1 "com/example/shardloom/shardloom/Ties" "count" "I" (.int (0 : Int32)) := D1 (Or.inl (hw _ (List.mem_of_getElem? (i := 24) rfl))) (ty := .int) (by decide)
  show own_Fin _ _ _ _ _ _ _ (T1.setTop (mkF m 3 #[.val (.int x0), .val (.long x1), .second, .val (.long x2), .second, .val (.long x3), .second, .val (.long x4), .second, .unset, .unset, .unset, .unset, .unset, .unset, .unset, .unset, .unset, .unset, .unset, .unset, .unset] [(.ref b1)]))
  refine own_of (fun _ kk => XS.dup X1.here hx rfl (hb hby at_3) rfl rfl kk) ?_
  show own_Fin _ _ _ _ _ _ _ (T1.setTop (mkF m 4 #[.val (.int x0), .val (.long x1), .second, .val (.long x2), .second, .val (.long x3), .second, .val (.long x4), .second, .unset, .unset, .unset, .unset, .unset, .unset, .unset, .unset, .unset, .unset, .unset, .unset, .unset] [(.ref b1), (.ref b1)]))
  refine own_of (fun _ kk => XS.iconst X1.here hx rfl (hb hby at_4) kk) ?_
  show own_Fin _ _ _ _ _ _ _ (T1.setTop (mkF m 5 #[.val (.int x0), .val (.long x1), .second, .val (.long x2), .second, .val (.long x3), .second, .val (.long x4), .second, .unset, .unset, .unset, .unset, .unset, .unset, .unset, .unset, .unset, .unset, .unset, .unset, .unset] [(.int (4 : Int32)), (.ref b1), (.ref b1)]))
  refine own_callC X1 hx hZ (y := (⟨"com/example/shardloom/shardloom/Ties", "<init>", "(I)V"⟩ : MethodName)) rfl hown (hw _ (List.mem_of_getElem? (i := 3) rfl)) (hw _ (List.mem_of_getElem? (i := 4) rfl)) (hw _ (List.mem_of_getElem? (i := 2) rfl)) (hw _ (List.mem_of_getElem? (i := 5) rfl)) (by decide) e1 (argsL := [(.int (4 : Int32))]) (met1 l Z a0 hw b1 (4 : Int32) h1 n0 Z1 rfl A1 Fb1_count Fb1_weight Fb1_keys Fb1_listed ge_b1) (W := 1) (by decide) (by decide) (by decide) (by decide) (by rw [hml]; rfl) pd_4 rfl (rest := [(.ref b1)]) rfl (Nat.le_of_eq rfl) (hb hby at_5) ?_
  intro v2 T2 h2 L2 X2 e2 q2
  obtain ⟨rfl, N2q, Z2, a1, a2, a3, O2⟩ := q2
  have N2 := Fr.app N0 N2q
  show own_Fin _ _ _ _ _ _ _ (T2.setTop (mkF m 8 #[.val (.int x0), .val (.long x1), .second, .val (.long x2), .second, .val (.long x3), .second, .val (.long x4), .second, .unset, .unset, .unset, .unset, .unset, .unset, .unset, .unset, .unset, .unset, .unset, .unset, .unset] [(.ref b1)]))
  have S2 : own_St Z h2 n0 b1 0 := ⟨0, a1, a2, a3, (fun _ => 0), (fun _ => 0), (fun _ => 0), (fun _ => 0), 0, O2, by decide, by decide, fun t ht => absurd ht (Nat.not_lt_zero t), fun j _ => Or.inl rfl, fun j _ => Or.inl rfl⟩
  refine own_of (fun _ kk => XS.astore X2.here hx rfl (hb hby at_8) rfl rfl (l' := #[.val (.int x0), .val (.long x1), .second, .val (.long x2), .second, .val (.long x3), .second, .val (.long x4), .second, .val (.ref b1), .unset, .unset, .unset, .unset, .unset, .unset, .unset, .unset, .unset, .unset, .unset, .unset]) rfl kk) ?_
  show own_Fin _ _ _ _ _ _ _ (T2.setTop (mkF m 10 #[.val (.int x0), .val (.long x1), .second, .val (.long x2), .second, .val (.long x3), .second, .val (.long x4), .second, .val (.ref b1), .unset, .unset, .unset, .unset, .unset, .unset, .unset, .unset, .unset, .unset, .unset, .unset] []))
  refine own_of (fun _ kk => XS.iloadN X2.here hx rfl (hb hby at_10) rfl kk) ?_
  show own_Fin _ _ _ _ _ _ _ (T2.setTop (mkF m 11 #[.val (.int x0), .val (.long x1), .second, .val (.long x2), .second, .val (.long x3), .second, .val (.long x4), .second, .val (.ref b1), .unset, .unset, .unset, .unset, .unset, .unset, .unset, .unset, .unset, .unset, .unset, .unset] [(.int x0)]))
  refine own_of (fun _ kk => XS.iconst X2.here hx rfl (hb hby at_11) kk) ?_
  show own_Fin _ _ _ _ _ _ _ (T2.setTop (mkF m 12 #[.val (.int x0), .val (.long x1), .second, .val (.long x2), .second, .val (.long x3), .second, .val (.long x4), .second, .val (.ref b1), .unset, .unset, .unset, .unset, .unset, .unset, .unset, .unset, .unset, .unset, .unset, .unset] [(.int (3 : Int32)), (.int x0)]))
  refine own_of (fun _ kk => XS.iand X2.here hx rfl (hb hby at_12) rfl kk) ?_
  show own_Fin _ _ _ _ _ _ _ (T2.setTop (mkF m 13 #[.val (.int x0), .val (.long x1), .second, .val (.long x2), .second, .val (.long x3), .second, .val (.long x4), .second, .val (.ref b1), .unset, .unset, .unset, .unset, .unset, .unset, .unset, .unset, .unset, .unset, .unset, .unset] [(.int (x0 &&& (3 : Int32)))]))
  refine own_of (fun _ kk => XS.istore X2.here hx rfl (hb hby at_13) rfl (l' := #[.val (.int x0), .val (.long x1), .second, .val (.long x2), .second, .val (.long x3), .second, .val (.long x4), .second, .val (.ref b1), .val (.int (x0 &&& (3 : Int32))), .unset, .unset, .unset, .unset, .unset, .unset, .unset, .unset, .unset, .unset, .unset]) rfl kk) ?_
  show own_Fin _ _ _ _ _ _ _ (T2.setTop (mkF m 15 #[.val (.int x0), .val (.long x1), .second, .val (.long x2), .second, .val (.long x3), .second, .val (.long x4), .second, .val (.ref b1), .val (.int (x0 &&& (3 : Int32))), .unset, .unset, .unset, .unset, .unset, .unset, .unset, .unset, .unset, .unset, .unset] []))
  refine own_of (fun _ kk => XS.iloadN X2.here hx rfl (hb hby at_15) rfl kk) ?_
  show own_Fin _ _ _ _ _ _ _ (T2.setTop (mkF m 16 #[.val (.int x0), .val (.long x1), .second, .val (.long x2), .second, .val (.long x3), .second, .val (.long x4), .second, .val (.ref b1), .val (.int (x0 &&& (3 : Int32))), .unset, .unset, .unset, .unset, .unset, .unset, .unset, .unset, .unset, .unset, .unset] [(.int x0)]))
  refine own_of (fun _ kk => XS.iconst X2.here hx rfl (hb hby at_16) kk) ?_
  show own_Fin _ _ _ _ _ _ _ (T2.setTop (mkF m 17 #[.val (.int x0), .val (.long x1), .second, .val (.long x2), .second, .val (.long x3), .second, .val (.long x4), .second, .val (.ref b1), .val (.int (x0 &&& (3 : Int32))), .unset, .unset, .unset, .unset, .unset, .unset, .unset, .unset, .unset, .unset, .unset] [(.int (2 : Int32)), (.int x0)]))
  refine own_of (fun _ kk => XS.iushr X2.here hx rfl (hb hby at_17) rfl kk) ?_
  show own_Fin _ _ _ _ _ _ _ (T2.setTop (mkF m 18 #[.val (.int x0), .val (.long x1), .second, .val (.long x2), .second, .val (.long x3), .second, .val (.long x4), .second, .val (.ref b1), .val (.int (x0 &&& (3 : Int32))), .unset, .unset, .unset, .unset, .unset, .unset, .unset, .unset, .unset, .unset, .unset] [(.int (own_iushr x0 (2 : Int32)))]))
  refine own_of (fun _ kk => XS.iconst X2.here hx rfl (hb hby at_18) kk) ?_
  show own_Fin _ _ _ _ _ _ _ (T2.setTop (mkF m 19 #[.val (.int x0), .val (.long x1), .second, .val (.long x2), .second, .val (.long x3), .second, .val (.long x4), .second, .val (.ref b1), .val (.int (x0 &&& (3 : Int32))), .unset, .unset, .unset, .unset, .unset, .unset, .unset, .unset, .unset, .unset, .unset] [(.int (3 : Int32)), (.int (own_iushr x0 (2 : Int32)))]))
  refine own_of (fun _ kk => XS.iand X2.here hx rfl (hb hby at_19) rfl kk) ?_
  show own_Fin _ _ _ _ _ _ _ (T2.setTop (mkF m 20 #[.val (.int x0), .val (.long x1), .second, .val (.long x2), .second, .val (.long x3), .second, .val (.long x4), .second, .val (.ref b1), .val (.int (x0 &&& (3 : Int32))), .unset, .unset, .unset, .unset, .unset, .unset, .unset, .unset, .unset, .unset, .unset] [(.int ((own_iushr x0 (2 : Int32)) &&& (3 : Int32)))]))
  refine own_of (fun _ kk => XS.istore X2.here hx rfl (hb hby at_20) rfl (l' := #[.val (.int x0), .val (.long x1), .second, .val (.long x2), .second, .val (.long x3), .second, .val (.long x4), .second, .val (.ref b1), .val (.int (x0 &&& (3 : Int32))), .val (.int ((own_iushr x0 (2 : Int32)) &&& (3 : Int32))), .unset, .unset, .unset, .unset, .unset, .unset, .unset, .unset, .unset, .unset]) rfl kk) ?_
  show own_Fin _ _ _ _ _ _ _ (T2.setTop (mkF m 22 #[.val (.int x0), .val (.long x1), .second, .val (.long x2), .second, .val (.long x3), .second, .val (.long x4), .second, .val (.ref b1), .val (.int (x0 &&& (3 : Int32))), .val (.int ((own_iushr x0 (2 : Int32)) &&& (3 : Int32))), .unset, .unset, .unset, .unset, .unset, .unset, .unset, .unset, .unset, .unset] []))
  refine own_of (fun _ kk => XS.iloadN X2.here hx rfl (hb hby at_22) rfl kk) ?_
  show own_Fin _ _ _ _ _ _ _ (T2.setTop (mkF m 23 #[.val (.int x0), .val (.long x1), .second, .val (.long x2), .second, .val (.long x3), .second, .val (.long x4), .second, .val (.ref b1), .val (.int (x0 &&& (3 : Int32))), .val (.int ((own_iushr x0 (2 : Int32)) &&& (3 : Int32))), .unset, .unset, .unset, .unset, .unset, .unset, .unset, .unset, .unset, .unset] [(.int x0)]))
  refine own_of (fun _ kk => XS.iconst X2.here hx rfl (hb hby at_23) kk) ?_
  show own_Fin _ _ _ _ _ _ _ (T2.setTop (mkF m 24 #[.val (.int x0), .val (.long x1), .second, .val (.long x2), .second, .val (.long x3), .second, .val (.long x4), .second, .val (.ref b1), .val (.int (x0 &&& (3 : Int32))), .val (.int ((own_iushr x0 (2 : Int32)) &&& (3 : Int32))), .unset, .unset, .unset, .unset, .unset, .unset, .unset, .unset, .unset, .unset] [(.int (4 : Int32)), (.int x0)]))
  refine own_of (fun _ kk => XS.iushr X2.here hx rfl (hb hby at_24) rfl kk) ?_
  show own_Fin _ _ _ _ _ _ _ (T2.setTop (mkF m 25 #[.val (.int x0), .val (.long x1), .second, .val (.long x2), .second, .val (.long x3), .second, .val (.long x4), .second, .val (.ref b1), .val (.int (x0 &&& (3 : Int32))), .val (.int ((own_iushr x0 (2 : Int32)) &&& (3 : Int32))), .unset, .unset, .unset, .unset, .unset, .unset, .unset, .unset, .unset, .unset] [(.int (own_iushr x0 (4 : Int32)))]))
  refine own_of (fun _ kk => XS.iconst X2.here hx rfl (hb hby at_25) kk) ?_
  show own_Fin _ _ _ _ _ _ _ (T2.setTop (mkF m 26 #[.val (.int x0), .val (.long x1), .second, .val (.long x2), .second, .val (.long x3), .second, .val (.long x4), .second, .val (.ref b1), .val (.int (x0 &&& (3 : Int32))), .val (.int ((own_iushr x0 (2 : Int32)) &&& (3 : Int32))), .unset, .unset, .unset, .unset, .unset, .unset, .unset, .unset, .unset, .unset] [(.int (3 : Int32)), (.int (own_iushr x0 (4 : Int32)))]))
  refine own_of (fun _ kk => XS.iand X2.here hx rfl (hb hby at_26) rfl kk) ?_
  show own_Fin _ _ _ _ _ _ _ (T2.setTop (mkF m 27 #[.val (.int x0), .val (.long x1), .second, .val (.long x2), .second, .val (.long x3), .second, .val (.long x4), .second, .val (.ref b1), .val (.int (x0 &&& (3 : Int32))), .val (.int ((own_iushr x0 (2 : Int32)) &&& (3 : Int32))), .unset, .unset, .unset, .unset, .unset, .unset, .unset, .unset, .unset, .unset] [(.int ((own_iushr x0 (4 : Int32)) &&& (3 : Int32)))]))
  refine own_of (fun _ kk => XS.istore X2.here hx rfl (hb hby at_27) rfl (l' := #[.val (.int x0), .val (.long x1), .second, .val (.long x2), .second, .val (.long x3), .second, .val (.long x4), .second, .val (.ref b1), .val (.int (x0 &&& (3 : Int32))), .val (.int ((own_iushr x0 (2 : Int32)) &&& (3 : Int32))), .val (.int ((own_iushr x0 (4 : Int32)) &&& (3 : Int32))), .unset, .unset, .unset, .unset, .unset, .unset, .unset, .unset, .unset]) rfl kk) ?_
  show own_Fin _ _ _ _ _ _ _ (T2.setTop (mkF m 29 #[.val (.int x0), .val (.long x1), .second, .val (.long x2), .second, .val (.long x3), .second, .val (.long x4), .second, .val (.ref b1), .val (.int (x0 &&& (3 : Int32))), .val (.int ((own_iushr x0 (2 : Int32)) &&& (3 : Int32))), .val (.int ((own_iushr x0 (4 : Int32)) &&& (3 : Int32))), .unset, .unset, .unset, .unset, .unset, .unset, .unset, .unset, .unset] []))
  refine own_of (fun _ kk => XS.iloadN X2.here hx rfl (hb hby at_29) rfl kk) ?_
  show own_Fin _ _ _ _ _ _ _ (T2.setTop (mkF m 30 #[.val (.int x0), .val (.long x1), .second, .val (.long x2), .second, .val (.long x3), .second, .val (.long x4), .second, .val (.ref b1), .val (.int (x0 &&& (3 : Int32))), .val (.int ((own_iushr x0 (2 : Int32)) &&& (3 : Int32))), .val (.int ((own_iushr x0 (4 : Int32)) &&& (3 : Int32))), .unset, .unset, .unset, .unset, .unset, .unset, .unset, .unset, .unset] [(.int x0)]))
  refine own_of (fun _ kk => XS.bipush X2.here hx rfl (hb hby at_30) kk) ?_
  show own_Fin _ _ _ _ _ _ _ (T2.setTop (mkF m 32 #[.val (.int x0), .val (.long x1), .second, .val (.long x2), .second, .val (.long x3), .second, .val (.long x4), .second, .val (.ref b1), .val (.int (x0 &&& (3 : Int32))), .val (.int ((own_iushr x0 (2 : Int32)) &&& (3 : Int32))), .val (.int ((own_iushr x0 (4 : Int32)) &&& (3 : Int32))), .unset, .unset, .unset, .unset, .unset, .unset, .unset, .unset, .unset] [(.int (6 : Int32)), (.int x0)]))
  refine own_of (fun _ kk => XS.iushr X2.here hx rfl (hb hby at_32) rfl kk) ?_
  show own_Fin _ _ _ _ _ _ _ (T2.setTop (mkF m 33 #[.val (.int x0), .val (.long x1), .second, .val (.long x2), .second, .val (.long x3), .second, .val (.long x4), .second, .val (.ref b1), .val (.int (x0 &&& (3 : Int32))), .val (.int ((own_iushr x0 (2 : Int32)) &&& (3 : Int32))), .val (.int ((own_iushr x0 (4 : Int32)) &&& (3 : Int32))), .unset, .unset, .unset, .unset, .unset, .unset, .unset, .unset, .unset] [(.int (own_iushr x0 (6 : Int32)))]))
  refine own_of (fun _ kk => XS.iconst X2.here hx rfl (hb hby at_33) kk) ?_
  show own_Fin _ _ _ _ _ _ _ (T2.setTop (mkF m 34 #[.val (.int x0), .val (.long x1), .second, .val (.long x2), .second, .val (.long x3), .second, .val (.long x4), .second, .val (.ref b1), .val (.int (x0 &&& (3 : Int32))), .val (.int ((own_iushr x0 (2 : Int32)) &&& (3 : Int32))), .val (.int ((own_iushr x0 (4 : Int32)) &&& (3 : Int32))), .unset, .unset, .unset, .unset, .unset, .unset, .unset, .unset, .unset] [(.int (3 : Int32)), (.int (own_iushr x0 (6 : Int32)))]))
  refine own_of (fun _ kk => XS.iand X2.here hx rfl (hb hby at_34) rfl kk) ?_
  show own_Fin _ _ _ _ _ _ _ (T2.setTop (mkF m 35 #[.val (.int x0), .val (.long x1), .second, .val (.long x2), .second, .val (.long x3), .second, .val (.long x4), .second, .val (.ref b1), .val (.int (x0 &&& (3 : Int32))), .val (.int ((own_iushr x0 (2 : Int32)) &&& (3 : Int32))), .val (.int ((own_iushr x0 (4 : Int32)) &&& (3 : Int32))), .unset, .unset, .unset, .unset, .unset, .unset, .unset, .unset, .unset] [(.int ((own_iushr x0 (6 : Int32)) &&& (3 : Int32)))]))
  refine own_of (fun _ kk => XS.istore X2.here hx rfl (hb hby at_35) rfl (l' := #[.val (.int x0), .val (.long x1), .second, .val (.long x2), .second, .val (.long x3), .second, .val (.long x4), .second, .val (.ref b1), .val (.int (x0 &&& (3 : Int32))), .val (.int ((own_iushr x0 (2 : Int32)) &&& (3 : Int32))), .val (.int ((own_iushr x0 (4 : Int32)) &&& (3 : Int32))), .val (.int ((own_iushr x0 (6 : Int32)) &&& (3 : Int32))), .unset, .unset, .unset, .unset, .unset, .unset, .unset, .unset]) rfl kk) ?_
  show own_Fin _ _ _ _ _ _ _ (T2.setTop (mkF m 37 #[.val (.int x0), .val (.long x1), .second, .val (.long x2), .second, .val (.long x3), .second, .val (.long x4), .second, .val (.ref b1), .val (.int (x0 &&& (3 : Int32))), .val (.int ((own_iushr x0 (2 : Int32)) &&& (3 : Int32))), .val (.int ((own_iushr x0 (4 : Int32)) &&& (3 : Int32))), .val (.int ((own_iushr x0 (6 : Int32)) &&& (3 : Int32))), .unset, .unset, .unset, .unset, .unset, .unset, .unset, .unset] []))
  refine own_of (fun _ kk => XS.iloadN X2.here hx rfl (hb hby at_37) rfl kk) ?_
  show own_Fin _ _ _ _ _ _ _ (T2.setTop (mkF m 38 #[.val (.int x0), .val (.long x1), .second, .val (.long x2), .second, .val (.long x3), .second, .val (.long x4), .second, .val (.ref b1), .val (.int (x0 &&& (3 : Int32))), .val (.int ((own_iushr x0 (2 : Int32)) &&& (3 : Int32))), .val (.int ((own_iushr x0 (4 : Int32)) &&& (3 : Int32))), .val (.int ((own_iushr x0 (6 : Int32)) &&& (3 : Int32))), .unset, .unset, .unset, .unset, .unset, .unset, .unset, .unset] [(.int x0)]))
  refine own_of (fun _ kk => XS.bipush X2.here hx rfl (hb hby at_38) kk) ?_
  show own_Fin _ _ _ _ _ _ _ (T2.setTop (mkF m 40 #[.val (.int x0), .val (.long x1), .second, .val (.long x2), .second, .val (.long x3), .second, .val (.long x4), .second, .val (.ref b1), .val (.int (x0 &&& (3 : Int32))), .val (.int ((own_iushr x0 (2 : Int32)) &&& (3 : Int32))), .val (.int ((own_iushr x0 (4 : Int32)) &&& (3 : Int32))), .val (.int ((own_iushr x0 (6 : Int32)) &&& (3 : Int32))), .unset, .unset, .unset, .unset, .unset, .unset, .unset, .unset] [(.int (8 : Int32)), (.int x0)]))
  refine own_of (fun _ kk => XS.iushr X2.here hx rfl (hb hby at_40) rfl kk) ?_
  show own_Fin _ _ _ _ _ _ _ (T2.setTop (mkF m 41 #[.val (.int x0), .val (.long x1), .second, .val (.long x2), .second, .val (.long x3), .second, .val (.long x4), .second, .val (.ref b1), .val (.int (x0 &&& (3 : Int32))), .val (.int ((own_iushr x0 (2 : Int32)) &&& (3 : Int32))), .val (.int ((own_iushr x0 (4 : Int32)) &&& (3 : Int32))), .val (.int ((own_iushr x0 (6 : Int32)) &&& (3 : Int32))), .unset, .unset, .unset, .unset, .unset, .unset, .unset, .unset] [(.int (own_iushr x0 (8 : Int32)))]))
  refine own_of (fun _ kk => XS.iconst X2.here hx rfl (hb hby at_41) kk) ?_
  show own_Fin _ _ _ _ _ _ _ (T2.setTop (mkF m 42 #[.val (.int x0), .val (.long x1), .second, .val (.long x2), .second, .val (.long x3), .second, .val (.long x4), .second, .val (.ref b1), .val (.int (x0 &&& (3 : Int32))), .val (.int ((own_iushr x0 (2 : Int32)) &&& (3 : Int32))), .val (.int ((own_iushr x0 (4 : Int32)) &&& (3 : Int32))), .val (.int ((own_iushr x0 (6 : Int32)) &&& (3 : Int32))), .unset, .unset, .unset, .unset, .unset, .unset, .unset, .unset] [(.int (3 : Int32)), (.int (own_iushr x0 (8 : Int32)))]))
  refine own_of (fun _ kk => XS.iand X2.here hx rfl (hb hby at_42) rfl kk) ?_
  show own_Fin _ _ _ _ _ _ _ (T2.setTop (mkF m 43 #[.val (.int x0), .val (.long x1), .second, .val (.long x2), .second, .val (.long x3), .second, .val (.long x4), .second, .val (.ref b1), .val (.int (x0 &&& (3 : Int32))), .val (.int ((own_iushr x0 (2 : Int32)) &&& (3 : Int32))), .val (.int ((own_iushr x0 (4 : Int32)) &&& (3 : Int32))), .val (.int ((own_iushr x0 (6 : Int32)) &&& (3 : Int32))), .unset, .unset, .unset, .unset, .unset, .unset, .unset, .unset] [(.int ((own_iushr x0 (8 : Int32)) &&& (3 : Int32)))]))
  refine own_of (fun _ kk => XS.istore X2.here hx rfl (hb hby at_43) rfl (l' := #[.val (.int x0), .val (.long x1), .second, .val (.long x2), .second, .val (.long x3), .second, .val (.long x4), .second, .val (.ref b1), .val (.int (x0 &&& (3 : Int32))), .val (.int ((own_iushr x0 (2 : Int32)) &&& (3 : Int32))), .val (.int ((own_iushr x0 (4 : Int32)) &&& (3 : Int32))), .val (.int ((own_iushr x0 (6 : Int32)) &&& (3 : Int32))), .val (.int ((own_iushr x0 (8 : Int32)) &&& (3 : Int32))), .unset, .unset, .unset, .unset, .unset, .unset, .unset]) rfl kk) ?_
  show own_Fin _ _ _ _ _ _ _ (T2.setTop (mkF m 45 #[.val (.int x0), .val (.long x1), .second, .val (.long x2), .second, .val (.long x3), .second, .val (.long x4), .second, .val (.ref b1), .val (.int (x0 &&& (3 : Int32))), .val (.int ((own_iushr x0 (2 : Int32)) &&& (3 : Int32))), .val (.int ((own_iushr x0 (4 : Int32)) &&& (3 : Int32))), .val (.int ((own_iushr x0 (6 : Int32)) &&& (3 : Int32))), .val (.int ((own_iushr x0 (8 : Int32)) &&& (3 : Int32))), .unset, .unset, .unset, .unset, .unset, .unset, .unset] []))
  refine own_of (fun _ kk => XS.iloadN X2.here hx rfl (hb hby at_45) rfl kk) ?_
  show own_Fin _ _ _ _ _ _ _ (T2.setTop (mkF m 46 #[.val (.int x0), .val (.long x1), .second, .val (.long x2), .second, .val (.long x3), .second, .val (.long x4), .second, .val (.ref b1), .val (.int (x0 &&& (3 : Int32))), .val (.int ((own_iushr x0 (2 : Int32)) &&& (3 : Int32))), .val (.int ((own_iushr x0 (4 : Int32)) &&& (3 : Int32))), .val (.int ((own_iushr x0 (6 : Int32)) &&& (3 : Int32))), .val (.int ((own_iushr x0 (8 : Int32)) &&& (3 : Int32))), .unset, .unset, .unset, .unset, .unset, .unset, .unset] [(.int x0)]))
  refine own_of (fun _ kk => XS.bipush X2.here hx rfl (hb hby at_46) kk) ?_
  show own_Fin _ _ _ _ _ _ _ (T2.setTop (mkF m 48 #[.val (.int x0), .val (.long x1), .second, .val (.long x2), .second, .val (.long x3), .second, .val (.long x4), .second, .val (.ref b1), .val (.int (x0 &&& (3 : Int32))), .val (.int ((own_iushr x0 (2 : Int32)) &&& (3 : Int32))), .val (.int ((own_iushr x0 (4 : Int32)) &&& (3 : Int32))), .val (.int ((own_iushr x0 (6 : Int32)) &&& (3 : Int32))), .val (.int ((own_iushr x0 (8 : Int32)) &&& (3 : Int32))), .unset, .unset, .unset, .unset, .unset, .unset, .unset] [(.int (10 : Int32)), (.int x0)]))
  refine own_of (fun _ kk => XS.iushr X2.here hx rfl (hb hby at_48) rfl kk) ?_
  show own_Fin _ _ _ _ _ _ _ (T2.setTop (mkF m 49 #[.val (.int x0), .val (.long x1), .second, .val (.long x2), .second, .val (.long x3), .second, .val (.long x4), .second, .val (.ref b1), .val (.int (x0 &&& (3 : Int32))), .val (.int ((own_iushr x0 (2 : Int32)) &&& (3 : Int32))), .val (.int ((own_iushr x0 (4 : Int32)) &&& (3 : Int32))), .val (.int ((own_iushr x0 (6 : Int32)) &&& (3 : Int32))), .val (.int ((own_iushr x0 (8 : Int32)) &&& (3 : Int32))), .unset, .unset, .unset, .unset, .unset, .unset, .unset] [(.int (own_iushr x0 (10 : Int32)))]))
  refine own_of (fun _ kk => XS.iconst X2.here hx rfl (hb hby at_49) kk) ?_
  show own_Fin _ _ _ _ _ _ _ (T2.setTop (mkF m 50 #[.val (.int x0), .val (.long x1), .second, .val (.long x2), .second, .val (.long x3), .second, .val (.long x4), .second, .val (.ref b1), .val (.int (x0 &&& (3 : Int32))), .val (.int ((own_iushr x0 (2 : Int32)) &&& (3 : Int32))), .val (.int ((own_iushr x0 (4 : Int32)) &&& (3 : Int32))), .val (.int ((own_iushr x0 (6 : Int32)) &&& (3 : Int32))), .val (.int ((own_iushr x0 (8 : Int32)) &&& (3 : Int32))), .unset, .unset, .unset, .unset, .unset, .unset, .unset] [(.int (3 : Int32)), (.int (own_iushr x0 (10 : Int32)))]))
  refine own_of (fun _ kk => XS.iand X2.here hx rfl (hb hby at_50) rfl kk) ?_
  show own_Fin _ _ _ _ _ _ _ (T2.setTop (mkF m 51 #[.val (.int x0), .val (.long x1), .second, .val (.long x2), .second, .val (.long x3), .second, .val (.long x4), .second, .val (.ref b1), .val (.int (x0 &&& (3 : Int32))), .val (.int ((own_iushr x0 (2 : Int32)) &&& (3 : Int32))), .val (.int ((own_iushr x0 (4 : Int32)) &&& (3 : Int32))), .val (.int ((own_iushr x0 (6 : Int32)) &&& (3 : Int32))), .val (.int ((own_iushr x0 (8 : Int32)) &&& (3 : Int32))), .unset, .unset, .unset, .unset, .unset, .unset, .unset] [(.int ((own_iushr x0 (10 : Int32)) &&& (3 : Int32)))]))
  refine own_of (fun _ kk => XS.istore X2.here hx rfl (hb hby at_51) rfl (l' := #[.val (.int x0), .val (.long x1), .second, .val (.long x2), .second, .val (.long x3), .second, .val (.long x4), .second, .val (.ref b1), .val (.int (x0 &&& (3 : Int32))), .val (.int ((own_iushr x0 (2 : Int32)) &&& (3 : Int32))), .val (.int ((own_iushr x0 (4 : Int32)) &&& (3 : Int32))), .val (.int ((own_iushr x0 (6 : Int32)) &&& (3 : Int32))), .val (.int ((own_iushr x0 (8 : Int32)) &&& (3 : Int32))), .val (.int ((own_iushr x0 (10 : Int32)) &&& (3 : Int32))), .unset, .unset, .unset, .unset, .unset, .unset]) rfl kk) ?_
  show own_Fin _ _ _ _ _ _ _ (T2.setTop (mkF m 53 #[.val (.int x0), .val (.long x1), .second, .val (.long x2), .second, .val (.long x3), .second, .val (.long x4), .second, .val (.ref b1), .val (.int (x0 &&& (3 : Int32))), .val (.int ((own_iushr x0 (2 : Int32)) &&& (3 : Int32))), .val (.int ((own_iushr x0 (4 : Int32)) &&& (3 : Int32))), .val (.int ((own_iushr x0 (6 : Int32)) &&& (3 : Int32))), .val (.int ((own_iushr x0 (8 : Int32)) &&& (3 : Int32))), .val (.int ((own_iushr x0 (10 : Int32)) &&& (3 : Int32))), .unset, .unset, .unset, .unset, .unset, .unset] []))
  refine own_of (fun _ kk => XS.iloadN X2.here hx rfl (hb hby at_53) rfl kk) ?_
  show own_Fin _ _ _ _ _ _ _ (T2.setTop (mkF m 54 #[.val (.int x0), .val (.long x1), .second, .val (.long x2), .second, .val (.long x3), .second, .val (.long x4), .second, .val (.ref b1), .val (.int (x0 &&& (3 : Int32))), .val (.int ((own_iushr x0 (2 : Int32)) &&& (3 : Int32))), .val (.int ((own_iushr x0 (4 : Int32)) &&& (3 : Int32))), .val (.int ((own_iushr x0 (6 : Int32)) &&& (3 : Int32))), .val (.int ((own_iushr x0 (8 : Int32)) &&& (3 : Int32))), .val (.int ((own_iushr x0 (10 : Int32)) &&& (3 : Int32))), .unset, .unset, .unset, .unset, .unset, .unset] [(.int x0)]))
  refine own_of (fun _ kk => XS.bipush X2.here hx rfl (hb hby at_54) kk) ?_
  show own_Fin _ _ _ _ _ _ _ (T2.setTop (mkF m 56 #[.val (.int x0), .val (.long x1), .second, .val (.long x2), .second, .val (.long x3), .second, .val (.long x4), .second, .val (.ref b1), .val (.int (x0 &&& (3 : Int32))), .val (.int ((own_iushr x0 (2 : Int32)) &&& (3 : Int32))), .val (.int ((own_iushr x0 (4 : Int32)) &&& (3 : Int32))), .val (.int ((own_iushr x0 (6 : Int32)) &&& (3 : Int32))), .val (.int ((own_iushr x0 (8 : Int32)) &&& (3 : Int32))), .val (.int ((own_iushr x0 (10 : Int32)) &&& (3 : Int32))), .unset, .unset, .unset, .unset, .unset, .unset] [(.int (12 : Int32)), (.int x0)]))
  refine own_of (fun _ kk => XS.iushr X2.here hx rfl (hb hby at_56) rfl kk) ?_
  show own_Fin _ _ _ _ _ _ _ (T2.setTop (mkF m 57 #[.val (.int x0), .val (.long x1), .second, .val (.long x2), .second, .val (.long x3), .second, .val (.long x4), .second, .val (.ref b1), .val (.int (x0 &&& (3 : Int32))), .val (.int ((own_iushr x0 (2 : Int32)) &&& (3 : Int32))), .val (.int ((own_iushr x0 (4 : Int32)) &&& (3 : Int32))), .val (.int ((own_iushr x0 (6 : Int32)) &&& (3 : Int32))), .val (.int ((own_iushr x0 (8 : Int32)) &&& (3 : Int32))), .val (.int ((own_iushr x0 (10 : Int32)) &&& (3 : Int32))), .unset, .unset, .unset, .unset, .unset, .unset] [(.int (own_iushr x0 (12 : Int32)))]))
  refine own_of (fun _ kk => XS.iconst X2.here hx rfl (hb hby at_57) kk) ?_
  show own_Fin _ _ _ _ _ _ _ (T2.setTop (mkF m 58 #[.val (.int x0), .val (.long x1), .second, .val (.long x2), .second, .val (.long x3), .second, .val (.long x4), .second, .val (.ref b1), .val (.int (x0 &&& (3 : Int32))), .val (.int ((own_iushr x0 (2 : Int32)) &&& (3 : Int32))), .val (.int ((own_iushr x0 (4 : Int32)) &&& (3 : Int32))), .val (.int ((own_iushr x0 (6 : Int32)) &&& (3 : Int32))), .val (.int ((own_iushr x0 (8 : Int32)) &&& (3 : Int32))), .val (.int ((own_iushr x0 (10 : Int32)) &&& (3 : Int32))), .unset, .unset, .unset, .unset, .unset, .unset] [(.int (3 : Int32)), (.int (own_iushr x0 (12 : Int32)))]))
  refine own_of (fun _ kk => XS.iand X2.here hx rfl (hb hby at_58) rfl kk) ?_
  show own_Fin _ _ _ _ _ _ _ (T2.setTop (mkF m 59 #[.val (.int x0), .val (.long x1), .second, .val (.long x2), .second, .val (.long x3), .second, .val (.long x4), .second, .val (.ref b1), .val (.int (x0 &&& (3 : Int32))), .val (.int ((own_iushr x0 (2 : Int32)) &&& (3 : Int32))), .val (.int ((own_iushr x0 (4 : Int32)) &&& (3 : Int32))), .val (.int ((own_iushr x0 (6 : Int32)) &&& (3 : Int32))), .val (.int ((own_iushr x0 (8 : Int32)) &&& (3 : Int32))), .val (.int ((own_iushr x0 (10 : Int32)) &&& (3 : Int32))), .unset, .unset, .unset, .unset, .unset, .unset] [(.int ((own_iushr x0 (12 : Int32)) &&& (3 : Int32)))]))
  refine own_of (fun _ kk => XS.istore X2.here hx rfl (hb hby at_59) rfl (l' := #[.val (.int x0), .val (.long x1), .second, .val (.long x2), .second, .val (.long x3), .second, .val (.long x4), .second, .val (.ref b1), .val (.int (x0 &&& (3 : Int32))), .val (.int ((own_iushr x0 (2 : Int32)) &&& (3 : Int32))), .val (.int ((own_iushr x0 (4 : Int32)) &&& (3 : Int32))), .val (.int ((own_iushr x0 (6 : Int32)) &&& (3 : Int32))), .val (.int ((own_iushr x0 (8 : Int32)) &&& (3 : Int32))), .val (.int ((own_iushr x0 (10 : Int32)) &&& (3 : Int32))), .val (.int ((own_iushr x0 (12 : Int32)) &&& (3 : Int32))), .unset, .unset, .unset, .unset, .unset]) rfl kk) ?_
  show own_Fin _ _ _ _ _ _ _ (T2.setTop (mkF m 61 #[.val (.int x0), .val (.long x1), .second, .val (.long x2), .second, .val (.long x3), .second, .val (.long x4), .second, .val (.ref b1), .val (.int (x0 &&& (3 : Int32))), .val (.int ((own_iushr x0 (2 : Int32)) &&& (3 : Int32))), .val (.int ((own_iushr x0 (4 : Int32)) &&& (3 : Int32))), .val (.int ((own_iushr x0 (6 : Int32)) &&& (3 : Int32))), .val (.int ((own_iushr x0 (8 : Int32)) &&& (3 : Int32))), .val (.int ((own_iushr x0 (10 : Int32)) &&& (3 : Int32))), .val (.int ((own_iushr x0 (12 : Int32)) &&& (3 : Int32))), .unset, .unset, .unset, .unset, .unset] []))
  refine own_of (fun _ kk => XS.iload X2.here hx rfl (hb hby at_61) rfl kk) ?_
  show own_Fin _ _ _ _ _ _ _ (T2.setTop (mkF m 63 #[.val (.int x0), .val (.long x1), .second, .val (.long x2), .second, .val (.long x3), .second, .val (.long x4), .second, .val (.ref b1), .val (.int (x0 &&& (3 : Int32))), .val (.int ((own_iushr x0 (2 : Int32)) &&& (3 : Int32))), .val (.int ((own_iushr x0 (4 : Int32)) &&& (3 : Int32))), .val (.int ((own_iushr x0 (6 : Int32)) &&& (3 : Int32))), .val (.int ((own_iushr x0 (8 : Int32)) &&& (3 : Int32))), .val (.int ((own_iushr x0 (10 : Int32)) &&& (3 : Int32))), .val (.int ((own_iushr x0 (12 : Int32)) &&& (3 : Int32))), .unset, .unset, .unset, .unset, .unset] [(.int (x0 &&& (3 : Int32)))]))
  refine own_of (fun _ kk => XS.iconst X2.here hx rfl (hb hby at_63) kk) ?_
  show own_Fin _ _ _ _ _ _ _ (T2.setTop (mkF m 64 #[.val (.int x0), .val (.long x1), .second, .val (.long x2), .second, .val (.long x3), .second, .val (.long x4), .second, .val (.ref b1), .val (.int (x0 &&& (3 : Int32))), .val (.int ((own_iushr x0 (2 : Int32)) &&& (3 : Int32))), .val (.int ((own_iushr x0 (4 : Int32)) &&& (3 : Int32))), .val (.int ((own_iushr x0 (6 : Int32)) &&& (3 : Int32))), .val (.int ((own_iushr x0 (8 : Int32)) &&& (3 : Int32))), .val (.int ((own_iushr x0 (10 : Int32)) &&& (3 : Int32))), .val (.int ((own_iushr x0 (12 : Int32)) &&& (3 : Int32))), .unset, .unset, .unset, .unset, .unset] [(.int (1 : Int32)), (.int (x0 &&& (3 : Int32)))]))
  by_cases c64 : (x0 &&& (3 : Int32)) < (1 : Int32)
  · refine own_of (fun _ kk => XS.icmpYes X2.here hx rfl (pc0 := 64) (pc' := 75) rfl (hb hby at_64) rfl (tlt c64).1 (by decide) (by decide) kk) ?_
    show own_Fin _ _ _ _ _ _ _ (T2.setTop (mkF m 75 #[.val (.int x0), .val (.long x1), .second, .val (.long x2), .second, .val (.long x3), .second, .val (.long x4), .second, .val (.ref b1), .val (.int (x0 &&& (3 : Int32))), .val (.int ((own_iushr x0 (2 : Int32)) &&& (3 : Int32))), .val (.int ((own_iushr x0 (4 : Int32)) &&& (3 : Int32))), .val (.int ((own_iushr x0 (6 : Int32)) &&& (3 : Int32))), .val (.int ((own_iushr x0 (8 : Int32)) &&& (3 : Int32))), .val (.int ((own_iushr x0 (10 : Int32)) &&& (3 : Int32))), .val (.int ((own_iushr x0 (12 : Int32)) &&& (3 : Int32))), .unset, .unset, .unset, .unset, .unset] []))
    refine own_of (fun _ kk => XS.iload X2.here hx rfl (hb hby at_75) rfl kk) ?_
    show own_Fin _ _ _ _ _ _ _ (T2.setTop (mkF m 77 #[.val (.int x0), .val (.long x1), .second, .val (.long x2), .second, .val (.long x3), .second, .val (.long x4), .second, .val (.ref b1), .val (.int (x0 &&& (3 : Int32))), .val (.int ((own_iushr x0 (2 : Int32)) &&& (3 : Int32))), .val (.int ((own_iushr x0 (4 : Int32)) &&& (3 : Int32))), .val (.int ((own_iushr x0 (6 : Int32)) &&& (3 : Int32))), .val (.int ((own_iushr x0 (8 : Int32)) &&& (3 : Int32))), .val (.int ((own_iushr x0 (10 : Int32)) &&& (3 : Int32))), .val (.int ((own_iushr x0 (12 : Int32)) &&& (3 : Int32))), .unset, .unset, .unset, .unset, .unset] [(.int (x0 &&& (3 : Int32)))]))
    refine own_of (fun _ kk => XS.iconst X2.here hx rfl (hb hby at_77) kk) ?_
    show own_Fin _ _ _ _ _ _ _ (T2.setTop (mkF m 78 #[.val (.int x0), .val (.long x1), .second, .val (.long x2), .second, .val (.long x3), .second, .val (.long x4), .second, .val (.ref b1), .val (.int (x0 &&& (3 : Int32))), .val (.int ((own_iushr x0 (2 : Int32)) &&& (3 : Int32))), .val (.int ((own_iushr x0 (4 : Int32)) &&& (3 : Int32))), .val (.int ((own_iushr x0 (6 : Int32)) &&& (3 : Int32))), .val (.int ((own_iushr x0 (8 : Int32)) &&& (3 : Int32))), .val (.int ((own_iushr x0 (10 : Int32)) &&& (3 : Int32))), .val (.int ((own_iushr x0 (12 : Int32)) &&& (3 : Int32))), .unset, .unset, .unset, .unset, .unset] [(.int (2 : Int32)), (.int (x0 &&& (3 : Int32)))]))
    refine own_of (fun _ kk => XS.icmpYes X2.here hx rfl (pc0 := 78) (pc' := 89) rfl (hb hby at_78) rfl (tlt (own_lt2 c64)).1 (by decide) (by decide) kk) ?_
    show own_Fin _ _ _ _ _ _ _ (T2.setTop (mkF m 89 #[.val (.int x0), .val (.long x1), .second, .val (.long x2), .second, .val (.long x3), .second, .val (.long x4), .second, .val (.ref b1), .val (.int (x0 &&& (3 : Int32))), .val (.int ((own_iushr x0 (2 : Int32)) &&& (3 : Int32))), .val (.int ((own_iushr x0 (4 : Int32)) &&& (3 : Int32))), .val (.int ((own_iushr x0 (6 : Int32)) &&& (3 : Int32))), .val (.int ((own_iushr x0 (8 : Int32)) &&& (3 : Int32))), .val (.int ((own_iushr x0 (10 : Int32)) &&& (3 : Int32))), .val (.int ((own_iushr x0 (12 : Int32)) &&& (3 : Int32))), .unset, .unset, .unset, .unset, .unset] []))
    refine own_of (fun _ kk => XS.iload X2.here hx rfl (hb hby at_89) rfl kk) ?_
    show own_Fin _ _ _ _ _ _ _ (T2.setTop (mkF m 91 #[.val (.int x0), .val (.long x1), .second, .val (.long x2), .second, .val (.long x3), .second, .val (.long x4), .second, .val (.ref b1), .val (.int (x0 &&& (3 : Int32))), .val (.int ((own_iushr x0 (2 : Int32)) &&& (3 : Int32))), .val (.int ((own_iushr x0 (4 : Int32)) &&& (3 : Int32))), .val (.int ((own_iushr x0 (6 : Int32)) &&& (3 : Int32))), .val (.int ((own_iushr x0 (8 : Int32)) &&& (3 : Int32))), .val (.int ((own_iushr x0 (10 : Int32)) &&& (3 : Int32))), .val (.int ((own_iushr x0 (12 : Int32)) &&& (3 : Int32))), .unset, .unset, .unset, .unset, .unset] [(.int (x0 &&& (3 : Int32)))]))
    refine own_of (fun _ kk => XS.iconst X2.here hx rfl (hb hby at_91) kk) ?_
    show own_Fin _ _ _ _ _ _ _ (T2.setTop (mkF m 92 #[.val (.int x0), .val (.long x1), .second, .val (.long x2), .second, .val (.long x3), .second, .val (.long x4), .second, .val (.ref b1), .val (.int (x0 &&& (3 : Int32))), .val (.int ((own_iushr x0 (2 : Int32)) &&& (3 : Int32))), .val (.int ((own_iushr x0 (4 : Int32)) &&& (3 : Int32))), .val (.int ((own_iushr x0 (6 : Int32)) &&& (3 : Int32))), .val (.int ((own_iushr x0 (8 : Int32)) &&& (3 : Int32))), .val (.int ((own_iushr x0 (10 : Int32)) &&& (3 : Int32))), .val (.int ((own_iushr x0 (12 : Int32)) &&& (3 : Int32))), .unset, .unset, .unset, .unset, .unset] [(.int (3 : Int32)), (.int (x0 &&& (3 : Int32)))]))
    refine own_of (fun _ kk => XS.icmpYes X2.here hx rfl (pc0 := 92) (pc' := 105) rfl (hb hby at_92) rfl (tlt (own_lt3 (own_lt2 c64))).1 (by decide) (by decide) kk) ?_
    show own_Fin _ _ _ _ _ _ _ (T2.setTop (mkF m 105 #[.val (.int x0), .val (.long x1), .second, .val (.long x2), .second, .val (.long x3), .second, .val (.long x4), .second, .val (.ref b1), .val (.int (x0 &&& (3 : Int32))), .val (.int ((own_iushr x0 (2 : Int32)) &&& (3 : Int32))), .val (.int ((own_iushr x0 (4 : Int32)) &&& (3 : Int32))), .val (.int ((own_iushr x0 (6 : Int32)) &&& (3 : Int32))), .val (.int ((own_iushr x0 (8 : Int32)) &&& (3 : Int32))), .val (.int ((own_iushr x0 (10 : Int32)) &&& (3 : Int32))), .val (.int ((own_iushr x0 (12 : Int32)) &&& (3 : Int32))), .unset, .unset, .unset, .unset, .unset] []))
    exact own_p2 l Z a0 hw x0 x1 x2 x3 x4 b1 n0 hx hby hml hown hZ hret hlk T2 _ h2 (own_wide X2 (by decide) (by decide)) N2 Z2 e2 (S2.mono (by decide))
  · refine own_of (fun _ kk => XS.icmpNo X2.here hx rfl (hb hby at_64) rfl (flt c64).1 kk) ?_
    show own_Fin _ _ _ _ _ _ _ (T2.setTop (mkF m 67 #[.val (.int x0), .val (.long x1), .second, .val (.long x2), .second, .val (.long x3), .second, .val (.long x4), .second, .val (.ref b1), .val (.int (x0 &&& (3 : Int32))), .val (.int ((own_iushr x0 (2 : Int32)) &&& (3 : Int32))), .val (.int ((own_iushr x0 (4 : Int32)) &&& (3 : Int32))), .val (.int ((own_iushr x0 (6 : Int32)) &&& (3 : Int32))), .val (.int ((own_iushr x0 (8 : Int32)) &&& (3 : Int32))), .val (.int ((own_iushr x0 (10 : Int32)) &&& (3 : Int32))), .val (.int ((own_iushr x0 (12 : Int32)) &&& (3 : Int32))), .unset, .unset, .unset, .unset, .unset] []))
    refine own_of (fun _ kk => XS.aload X2.here hx rfl (hb hby at_67) rfl rfl kk) ?_
    show own_Fin _ _ _ _ _ _ _ (T2.setTop (mkF m 69 #[.val (.int x0), .val (.long x1), .second, .val (.long x2), .second, .val (.long x3), .second, .val (.long x4), .second, .val (.ref b1), .val (.int (x0 &&& (3 : Int32))), .val (.int ((own_iushr x0 (2 : Int32)) &&& (3 : Int32))), .val (.int ((own_iushr x0 (4 : Int32)) &&& (3 : Int32))), .val (.int ((own_iushr x0 (6 : Int32)) &&& (3 : Int32))), .val (.int ((own_iushr x0 (8 : Int32)) &&& (3 : Int32))), .val (.int ((own_iushr x0 (10 : Int32)) &&& (3 : Int32))), .val (.int ((own_iushr x0 (12 : Int32)) &&& (3 : Int32))), .unset, .unset, .unset, .unset, .unset] [(.ref b1)]))
    refine own_of (fun _ kk => XS.iload X2.here hx rfl (hb hby at_69) rfl kk) ?_
    show own_Fin _ _ _ _ _ _ _ (T2.setTop (mkF m 71 #[.val (.int x0), .val (.long x1), .second, .val (.long x2), .second, .val (.long x3), .second, .val (.long x4), .second, .val (.ref b1), .val (.int (x0 &&& (3 : Int32))), .val (.int ((own_iushr x0 (2 : Int32)) &&& (3 : Int32))), .val (.int ((own_iushr x0 (4 : Int32)) &&& (3 : Int32))), .val (.int ((own_iushr x0 (6 : Int32)) &&& (3 : Int32))), .val (.int ((own_iushr x0 (8 : Int32)) &&& (3 : Int32))), .val (.int ((own_iushr x0 (10 : Int32)) &&& (3 : Int32))), .val (.int ((own_iushr x0 (12 : Int32)) &&& (3 : Int32))), .unset, .unset, .unset, .unset, .unset] [(.int ((own_iushr x0 (2 : Int32)) &&& (3 : Int32))), (.ref b1)]))
    refine own_of (fun _ kk => XS.lloadN X2.here hx rfl (hb hby at_71) rfl kk) ?_
    show own_Fin _ _ _ _ _ _ _ (T2.setTop (mkF m 72 #[.val (.int x0), .val (.long x1), .second, .val (.long x2), .second, .val (.long x3), .second, .val (.long x4), .second, .val (.ref b1), .val (.int (x0 &&& (3 : Int32))), .val (.int ((own_iushr x0 (2 : Int32)) &&& (3 : Int32))), .val (.int ((own_iushr x0 (4 : Int32)) &&& (3 : Int32))), .val (.int ((own_iushr x0 (6 : Int32)) &&& (3 : Int32))), .val (.int ((own_iushr x0 (8 : Int32)) &&& (3 : Int32))), .val (.int ((own_iushr x0 (10 : Int32)) &&& (3 : Int32))), .val (.int ((own_iushr x0 (12 : Int32)) &&& (3 : Int32))), .unset, .unset, .unset, .unset, .unset] [(.long x1), (.int ((own_iushr x0 (2 : Int32)) &&& (3 : Int32))), (.ref b1)]))
    obtain ⟨ct, a1, a2, a3, W, K, B, ks, cn, O, hct, hcn, hks, hB, hW⟩ := S2
    refine own_callV X2 hx hZ (y := (⟨"com/example/shardloom/shardloom/Ties", "add", "(IJ)V"⟩ : MethodName)) (z := (⟨"com/example/shardloom/shardloom/Ties", "add", "(IJ)V"⟩ : MethodName)) hown (hw _ (List.mem_of_getElem? (i := 30) rfl)) (hw _ (List.mem_of_getElem? (i := 31) rfl)) (notFace_of_selects (args := #[]) (mvT hZ (hw _ (List.mem_of_getElem? (i := 33) rfl)))) (hw _ (List.mem_of_getElem? (i := 33) rfl)) (hw _ (List.mem_of_getElem? (i := 32) rfl)) (hw _ (List.mem_of_getElem? (i := 2) rfl)) (hw _ (List.mem_of_getElem? (i := 34) rfl)) (by decide) e2 O.1 (argsL := [(.int ((own_iushr x0 (2 : Int32)) &&& (3 : Int32))), (.long x1)]) (met5 l Z a0 hw b1 ((own_iushr x0 (2 : Int32)) &&& (3 : Int32)) x1 ct a1 a2 a3 W K B ((own_iushr x0 (2 : Int32)) &&& (3 : Int32)).toInt.toNat cn h2 n0 Z2 O (own_k3 _).1 (own_k3 _).2 hct (by omega)) (W := 0) (by decide) (by decide) (by decide) (by decide) (by rw [hml]; rfl) pd_5 rfl (rest := []) rfl (Nat.le_of_eq rfl) (hb hby at_72) ?_
    intro v3 T3 h3 L3 X3 e3 q3
    obtain ⟨rfl, N3q, Z3, O3⟩ := q3
    have N3 := Fr.app N2 N3q
    show own_Fin _ _ _ _ _ _ _ (T3.setTop (mkF m 75 #[.val (.int x0), .val (.long x1), .second, .val (.long x2), .second, .val (.long x3), .second, .val (.long x4), .second, .val (.ref b1), .val (.int (x0 &&& (3 : Int32))), .val (.int ((own_iushr x0 (2 : Int32)) &&& (3 : Int32))), .val (.int ((own_iushr x0 (4 : Int32)) &&& (3 : Int32))), .val (.int ((own_iushr x0 (6 : Int32)) &&& (3 : Int32))), .val (.int ((own_iushr x0 (8 : Int32)) &&& (3 : Int32))), .val (.int ((own_iushr x0 (10 : Int32)) &&& (3 : Int32))), .val (.int ((own_iushr x0 (12 : Int32)) &&& (3 : Int32))), .unset, .unset, .unset, .unset, .unset] []))
    have S3 := own_St.add O3 hct hcn hks hB hW (own_k3 _).1 (own_k3 _).2 (by decide)
    refine own_of (fun _ kk => XS.iload X3.here hx rfl (hb hby at_75) rfl kk) ?_
    show own_Fin _ _ _ _ _ _ _ (T3.setTop (mkF m 77 #[.val (.int x0), .val (.long x1), .second, .val (.long x2), .second, .val (.long x3), .second, .val (.long x4), .second, .val (.ref b1), .val (.int (x0 &&& (3 : Int32))), .val (.int ((own_iushr x0 (2 : Int32)) &&& (3 : Int32))), .val (.int ((own_iushr x0 (4 : Int32)) &&& (3 : Int32))), .val (.int ((own_iushr x0 (6 : Int32)) &&& (3 : Int32))), .val (.int ((own_iushr x0 (8 : Int32)) &&& (3 : Int32))), .val (.int ((own_iushr x0 (10 : Int32)) &&& (3 : Int32))), .val (.int ((own_iushr x0 (12 : Int32)) &&& (3 : Int32))), .unset, .unset, .unset, .unset, .unset] [(.int (x0 &&& (3 : Int32)))]))
    refine own_of (fun _ kk => XS.iconst X3.here hx rfl (hb hby at_77) kk) ?_
    show own_Fin _ _ _ _ _ _ _ (T3.setTop (mkF m 78 #[.val (.int x0), .val (.long x1), .second, .val (.long x2), .second, .val (.long x3), .second, .val (.long x4), .second, .val (.ref b1), .val (.int (x0 &&& (3 : Int32))), .val (.int ((own_iushr x0 (2 : Int32)) &&& (3 : Int32))), .val (.int ((own_iushr x0 (4 : Int32)) &&& (3 : Int32))), .val (.int ((own_iushr x0 (6 : Int32)) &&& (3 : Int32))), .val (.int ((own_iushr x0 (8 : Int32)) &&& (3 : Int32))), .val (.int ((own_iushr x0 (10 : Int32)) &&& (3 : Int32))), .val (.int ((own_iushr x0 (12 : Int32)) &&& (3 : Int32))), .unset, .unset, .unset, .unset, .unset] [(.int (2 : Int32)), (.int (x0 &&& (3 : Int32)))]))
    by_cases c78 : (x0 &&& (3 : Int32)) < (2 : Int32)
    · refine own_of (fun _ kk => XS.icmpYes X3.here hx rfl (pc0 := 78) (pc' := 89) rfl (hb hby at_78) rfl (tlt c78).1 (by decide) (by decide) kk) ?_
      show own_Fin _ _ _ _ _ _ _ (T3.setTop (mkF m 89 #[.val (.int x0), .val (.long x1), .second, .val (.long x2), .second, .val (.long x3), .second, .val (.long x4), .second, .val (.ref b1), .val (.int (x0 &&& (3 : Int32))), .val (.int ((own_iushr x0 (2 : Int32)) &&& (3 : Int32))), .val (.int ((own_iushr x0 (4 : Int32)) &&& (3 : Int32))), .val (.int ((own_iushr x0 (6 : Int32)) &&& (3 : Int32))), .val (.int ((own_iushr x0 (8 : Int32)) &&& (3 : Int32))), .val (.int ((own_iushr x0 (10 : Int32)) &&& (3 : Int32))), .val (.int ((own_iushr x0 (12 : Int32)) &&& (3 : Int32))), .unset, .unset, .unset, .unset, .unset] []))
      refine own_of (fun _ kk => XS.iload X3.here hx rfl (hb hby at_89) rfl kk) ?_
      show own_Fin _ _ _ _ _ _ _ (T3.setTop (mkF m 91 #[.val (.int x0), .val (.long x1), .second, .val (.long x2), .second, .val (.long x3), .second, .val (.long x4), .second, .val (.ref b1), .val (.int (x0 &&& (3 : Int32))), .val (.int ((own_iushr x0 (2 : Int32)) &&& (3 : Int32))), .val (.int ((own_iushr x0 (4 : Int32)) &&& (3 : Int32))), .val (.int ((own_iushr x0 (6 : Int32)) &&& (3 : Int32))), .val (.int ((own_iushr x0 (8 : Int32)) &&& (3 : Int32))), .val (.int ((own_iushr x0 (10 : Int32)) &&& (3 : Int32))), .val (.int ((own_iushr x0 (12 : Int32)) &&& (3 : Int32))), .unset, .unset, .unset, .unset, .unset] [(.int (x0 &&& (3 : Int32)))]))
      refine own_of (fun _ kk => XS.iconst X3.here hx rfl (hb hby at_91) kk) ?_
      show own_Fin _ _ _ _ _ _ _ (T3.setTop (mkF m 92 #[.val (.int x0), .val (.long x1), .second, .val (.long x2), .second, .val (.long x3), .second, .val (.long x4), .second, .val (.ref b1), .val (.int (x0 &&& (3 : Int32))), .val (.int ((own_iushr x0 (2 : Int32)) &&& (3 : Int32))), .val (.int ((own_iushr x0 (4 : Int32)) &&& (3 : Int32))), .val (.int ((own_iushr x0 (6 : Int32)) &&& (3 : Int32))), .val (.int ((own_iushr x0 (8 : Int32)) &&& (3 : Int32))), .val (.int ((own_iushr x0 (10 : Int32)) &&& (3 : Int32))), .val (.int ((own_iushr x0 (12 : Int32)) &&& (3 : Int32))), .unset, .unset, .unset, .unset, .unset] [(.int (3 : Int32)), (.int (x0 &&& (3 : Int32)))]))
      refine own_of (fun _ kk => XS.icmpYes X3.here hx rfl (pc0 := 92) (pc' := 105) rfl (hb hby at_92) rfl (tlt (own_lt3 c78)).1 (by decide) (by decide) kk) ?_
      show own_Fin _ _ _ _ _ _ _ (T3.setTop (mkF m 105 #[.val (.int x0), .val (.long x1), .second, .val (.long x2), .second, .val (.long x3), .second, .val (.long x4), .second, .val (.ref b1), .val (.int (x0 &&& (3 : Int32))), .val (.int ((own_iushr x0 (2 : Int32)) &&& (3 : Int32))), .val (.int ((own_iushr x0 (4 : Int32)) &&& (3 : Int32))), .val (.int ((own_iushr x0 (6 : Int32)) &&& (3 : Int32))), .val (.int ((own_iushr x0 (8 : Int32)) &&& (3 : Int32))), .val (.int ((own_iushr x0 (10 : Int32)) &&& (3 : Int32))), .val (.int ((own_iushr x0 (12 : Int32)) &&& (3 : Int32))), .unset, .unset, .unset, .unset, .unset] []))
      exact own_p2 l Z a0 hw x0 x1 x2 x3 x4 b1 n0 hx hby hml hown hZ hret hlk T3 _ h3 (own_wide X3 (by decide) (by decide)) N3 Z3 e3 (S3.mono (by decide))
    · refine own_of (fun _ kk => XS.icmpNo X3.here hx rfl (hb hby at_78) rfl (flt c78).1 kk) ?_
      show own_Fin _ _ _ _ _ _ _ (T3.setTop (mkF m 81 #[.val (.int x0), .val (.long x1), .second, .val (.long x2), .second, .val (.long x3), .second, .val (.long x4), .second, .val (.ref b1), .val (.int (x0 &&& (3 : Int32))), .val (.int ((own_iushr x0 (2 : Int32)) &&& (3 : Int32))), .val (.int ((own_iushr x0 (4 : Int32)) &&& (3 : Int32))), .val (.int ((own_iushr x0 (6 : Int32)) &&& (3 : Int32))), .val (.int ((own_iushr x0 (8 : Int32)) &&& (3 : Int32))), .val (.int ((own_iushr x0 (10 : Int32)) &&& (3 : Int32))), .val (.int ((own_iushr x0 (12 : Int32)) &&& (3 : Int32))), .unset, .unset, .unset, .unset, .unset] []))
      refine own_of (fun _ kk => XS.aload X3.here hx rfl (hb hby at_81) rfl rfl kk) ?_
      show own_Fin _ _ _ _ _ _ _ (T3.setTop (mkF m 83 #[.val (.int x0), .val (.long x1), .second, .val (.long x2), .second, .val (.long x3), .second, .val (.long x4), .second, .val (.ref b1), .val (.int (x0 &&& (3 : Int32))), .val (.int ((own_iushr x0 (2 : Int32)) &&& (3 : Int32))), .val (.int ((own_iushr x0 (4 : Int32)) &&& (3 : Int32))), .val (.int ((own_iushr x0 (6 : Int32)) &&& (3 : Int32))), .val (.int ((own_iushr x0 (8 : Int32)) &&& (3 : Int32))), .val (.int ((own_iushr x0 (10 : Int32)) &&& (3 : Int32))), .val (.int ((own_iushr x0 (12 : Int32)) &&& (3 : Int32))), .unset, .unset, .unset, .unset, .unset] [(.ref b1)]))
      refine own_of (fun _ kk => XS.iload X3.here hx rfl (hb hby at_83) rfl kk) ?_
      show own_Fin _ _ _ _ _ _ _ (T3.setTop (mkF m 85 #[.val (.int x0), .val (.long x1), .second, .val (.long x2), .second, .val (.long x3), .second, .val (.long x4), .second, .val (.ref b1), .val (.int (x0 &&& (3 : Int32))), .val (.int ((own_iushr x0 (2 : Int32)) &&& (3 : Int32))), .val (.int ((own_iushr x0 (4 : Int32)) &&& (3 : Int32))), .val (.int ((own_iushr x0 (6 : Int32)) &&& (3 : Int32))), .val (.int ((own_iushr x0 (8 : Int32)) &&& (3 : Int32))), .val (.int ((own_iushr x0 (10 : Int32)) &&& (3 : Int32))), .val (.int ((own_iushr x0 (12 : Int32)) &&& (3 : Int32))), .unset, .unset, .unset, .unset, .unset] [(.int ((own_iushr x0 (4 : Int32)) &&& (3 : Int32))), (.ref b1)]))
      refine own_of (fun _ kk => XS.lloadN X3.here hx rfl (hb hby at_85) rfl kk) ?_
      show own_Fin _ _ _ _ _ _ _ (T3.setTop (mkF m 86 #[.val (.int x0), .val (.long x1), .second, .val (.long x2), .second, .val (.long x3), .second, .val (.long x4), .second, .val (.ref b1), .val (.int (x0 &&& (3 : Int32))), .val (.int ((own_iushr x0 (2 : Int32)) &&& (3 : Int32))), .val (.int ((own_iushr x0 (4 : Int32)) &&& (3 : Int32))), .val (.int ((own_iushr x0 (6 : Int32)) &&& (3 : Int32))), .val (.int ((own_iushr x0 (8 : Int32)) &&& (3 : Int32))), .val (.int ((own_iushr x0 (10 : Int32)) &&& (3 : Int32))), .val (.int ((own_iushr x0 (12 : Int32)) &&& (3 : Int32))), .unset, .unset, .unset, .unset, .unset] [(.long x2), (.int ((own_iushr x0 (4 : Int32)) &&& (3 : Int32))), (.ref b1)]))
      obtain ⟨ct, a1, a2, a3, W, K, B, ks, cn, O, hct, hcn, hks, hB, hW⟩ := S3
      refine own_callV X3 hx hZ (y := (⟨"com/example/shardloom/shardloom/Ties", "add", "(IJ)V"⟩ : MethodName)) (z := (⟨"com/example/shardloom/shardloom/Ties", "add", "(IJ)V"⟩ : MethodName)) hown (hw _ (List.mem_of_getElem? (i := 30) rfl)) (hw _ (List.mem_of_getElem? (i := 31) rfl)) (notFace_of_selects (args := #[]) (mvT hZ (hw _ (List.mem_of_getElem? (i := 33) rfl)))) (hw _ (List.mem_of_getElem? (i := 33) rfl)) (hw _ (List.mem_of_getElem? (i := 32) rfl)) (hw _ (List.mem_of_getElem? (i := 2) rfl)) (hw _ (List.mem_of_getElem? (i := 34) rfl)) (by decide) e3 O.1 (argsL := [(.int ((own_iushr x0 (4 : Int32)) &&& (3 : Int32))), (.long x2)]) (met5 l Z a0 hw b1 ((own_iushr x0 (4 : Int32)) &&& (3 : Int32)) x2 ct a1 a2 a3 W K B ((own_iushr x0 (4 : Int32)) &&& (3 : Int32)).toInt.toNat cn h3 n0 Z3 O (own_k3 _).1 (own_k3 _).2 hct (by omega)) (W := 0) (by decide) (by decide) (by decide) (by decide) (by rw [hml]; rfl) pd_5 rfl (rest := []) rfl (Nat.le_of_eq rfl) (hb hby at_86) ?_
      intro v4 T4 h4 L4 X4 e4 q4
      obtain ⟨rfl, N4q, Z4, O4⟩ := q4
      have N4 := Fr.app N3 N4q
      show own_Fin _ _ _ _ _ _ _ (T4.setTop (mkF m 89 #[.val (.int x0), .val (.long x1), .second, .val (.long x2), .second, .val (.long x3), .second, .val (.long x4), .second, .val (.ref b1), .val (.int (x0 &&& (3 : Int32))), .val (.int ((own_iushr x0 (2 : Int32)) &&& (3 : Int32))), .val (.int ((own_iushr x0 (4 : Int32)) &&& (3 : Int32))), .val (.int ((own_iushr x0 (6 : Int32)) &&& (3 : Int32))), .val (.int ((own_iushr x0 (8 : Int32)) &&& (3 : Int32))), .val (.int ((own_iushr x0 (10 : Int32)) &&& (3 : Int32))), .val (.int ((own_iushr x0 (12 : Int32)) &&& (3 : Int32))), .unset, .unset, .unset, .unset, .unset] []))
      have S4 := own_St.add O4 hct hcn hks hB hW (own_k3 _).1 (own_k3 _).2 (by decide)
      refine own_of (fun _ kk => XS.iload X4.here hx rfl (hb hby at_89) rfl kk) ?_
      show own_Fin _ _ _ _ _ _ _ (T4.setTop (mkF m 91 #[.val (.int x0), .val (.long x1), .second, .val (.long x2), .second, .val (.long x3), .second, .val (.long x4), .second, .val (.ref b1), .val (.int (x0 &&& (3 : Int32))), .val (.int ((own_iushr x0 (2 : Int32)) &&& (3 : Int32))), .val (.int ((own_iushr x0 (4 : Int32)) &&& (3 : Int32))), .val (.int ((own_iushr x0 (6 : Int32)) &&& (3 : Int32))), .val (.int ((own_iushr x0 (8 : Int32)) &&& (3 : Int32))), .val (.int ((own_iushr x0 (10 : Int32)) &&& (3 : Int32))), .val (.int ((own_iushr x0 (12 : Int32)) &&& (3 : Int32))), .unset, .unset, .unset, .unset, .unset] [(.int (x0 &&& (3 : Int32)))]))
      refine own_of (fun _ kk => XS.iconst X4.here hx rfl (hb hby at_91) kk) ?_
      show own_Fin _ _ _ _ _ _ _ (T4.setTop (mkF m 92 #[.val (.int x0), .val (.long x1), .second, .val (.long x2), .second, .val (.long x3), .second, .val (.long x4), .second, .val (.ref b1), .val (.int (x0 &&& (3 : Int32))), .val (.int ((own_iushr x0 (2 : Int32)) &&& (3 : Int32))), .val (.int ((own_iushr x0 (4 : Int32)) &&& (3 : Int32))), .val (.int ((own_iushr x0 (6 : Int32)) &&& (3 : Int32))), .val (.int ((own_iushr x0 (8 : Int32)) &&& (3 : Int32))), .val (.int ((own_iushr x0 (10 : Int32)) &&& (3 : Int32))), .val (.int ((own_iushr x0 (12 : Int32)) &&& (3 : Int32))), .unset, .unset, .unset, .unset, .unset] [(.int (3 : Int32)), (.int (x0 &&& (3 : Int32)))]))
      by_cases c92 : (x0 &&& (3 : Int32)) < (3 : Int32)
      · refine own_of (fun _ kk => XS.icmpYes X4.here hx rfl (pc0 := 92) (pc' := 105) rfl (hb hby at_92) rfl (tlt c92).1 (by decide) (by decide) kk) ?_
        show own_Fin _ _ _ _ _ _ _ (T4.setTop (mkF m 105 #[.val (.int x0), .val (.long x1), .second, .val (.long x2), .second, .val (.long x3), .second, .val (.long x4), .second, .val (.ref b1), .val (.int (x0 &&& (3 : Int32))), .val (.int ((own_iushr x0 (2 : Int32)) &&& (3 : Int32))), .val (.int ((own_iushr x0 (4 : Int32)) &&& (3 : Int32))), .val (.int ((own_iushr x0 (6 : Int32)) &&& (3 : Int32))), .val (.int ((own_iushr x0 (8 : Int32)) &&& (3 : Int32))), .val (.int ((own_iushr x0 (10 : Int32)) &&& (3 : Int32))), .val (.int ((own_iushr x0 (12 : Int32)) &&& (3 : Int32))), .unset, .unset, .unset, .unset, .unset] []))
        exact own_p2 l Z a0 hw x0 x1 x2 x3 x4 b1 n0 hx hby hml hown hZ hret hlk T4 _ h4 (own_wide X4 (by decide) (by decide)) N4 Z4 e4 (S4.mono (by decide))
      · refine own_of (fun _ kk => XS.icmpNo X4.here hx rfl (hb hby at_92) rfl (flt c92).1 kk) ?_
        show own_Fin _ _ _ _ _ _ _ (T4.setTop (mkF m 95 #[.val (.int x0), .val (.long x1), .second, .val (.long x2), .second, .val (.long x3), .second, .val (.long x4), .second, .val (.ref b1), .val (.int (x0 &&& (3 : Int32))), .val (.int ((own_iushr x0 (2 : Int32)) &&& (3 : Int32))), .val (.int ((own_iushr x0 (4 : Int32)) &&& (3 : Int32))), .val (.int ((own_iushr x0 (6 : Int32)) &&& (3 : Int32))), .val (.int ((own_iushr x0 (8 : Int32)) &&& (3 : Int32))), .val (.int ((own_iushr x0 (10 : Int32)) &&& (3 : Int32))), .val (.int ((own_iushr x0 (12 : Int32)) &&& (3 : Int32))), .unset, .unset, .unset, .unset, .unset] []))
        refine own_of (fun _ kk => XS.aload X4.here hx rfl (hb hby at_95) rfl rfl kk) ?_
        show own_Fin _ _ _ _ _ _ _ (T4.setTop (mkF m 97 #[.val (.int x0), .val (.long x1), .second, .val (.long x2), .second, .val (.long x3), .second, .val (.long x4), .second, .val (.ref b1), .val (.int (x0 &&& (3 : Int32))), .val (.int ((own_iushr x0 (2 : Int32)) &&& (3 : Int32))), .val (.int ((own_iushr x0 (4 : Int32)) &&& (3 : Int32))), .val (.int ((own_iushr x0 (6 : Int32)) &&& (3 : Int32))), .val (.int ((own_iushr x0 (8 : Int32)) &&& (3 : Int32))), .val (.int ((own_iushr x0 (10 : Int32)) &&& (3 : Int32))), .val (.int ((own_iushr x0 (12 : Int32)) &&& (3 : Int32))), .unset, .unset, .unset, .unset, .unset] [(.ref b1)]))
        refine own_of (fun _ kk => XS.iload X4.here hx rfl (hb hby at_97) rfl kk) ?_
        show own_Fin _ _ _ _ _ _ _ (T4.setTop (mkF m 99 #[.val (.int x0), .val (.long x1), .second, .val (.long x2), .second, .val (.long x3), .second, .val (.long x4), .second, .val (.ref b1), .val (.int (x0 &&& (3 : Int32))), .val (.int ((own_iushr x0 (2 : Int32)) &&& (3 : Int32))), .val (.int ((own_iushr x0 (4 : Int32)) &&& (3 : Int32))), .val (.int ((own_iushr x0 (6 : Int32)) &&& (3 : Int32))), .val (.int ((own_iushr x0 (8 : Int32)) &&& (3 : Int32))), .val (.int ((own_iushr x0 (10 : Int32)) &&& (3 : Int32))), .val (.int ((own_iushr x0 (12 : Int32)) &&& (3 : Int32))), .unset, .unset, .unset, .unset, .unset] [(.int ((own_iushr x0 (6 : Int32)) &&& (3 : Int32))), (.ref b1)]))
        refine own_of (fun _ kk => XS.lloadN X4.here hx rfl (hb hby at_99) rfl kk) ?_
        show own_Fin _ _ _ _ _ _ _ (T4.setTop (mkF m 100 #[.val (.int x0), .val (.long x1), .second, .val (.long x2), .second, .val (.long x3), .second, .val (.long x4), .second, .val (.ref b1), .val (.int (x0 &&& (3 : Int32))), .val (.int ((own_iushr x0 (2 : Int32)) &&& (3 : Int32))), .val (.int ((own_iushr x0 (4 : Int32)) &&& (3 : Int32))), .val (.int ((own_iushr x0 (6 : Int32)) &&& (3 : Int32))), .val (.int ((own_iushr x0 (8 : Int32)) &&& (3 : Int32))), .val (.int ((own_iushr x0 (10 : Int32)) &&& (3 : Int32))), .val (.int ((own_iushr x0 (12 : Int32)) &&& (3 : Int32))), .unset, .unset, .unset, .unset, .unset] [(.long x1), (.int ((own_iushr x0 (6 : Int32)) &&& (3 : Int32))), (.ref b1)]))
        refine own_of (fun _ kk => XS.lloadN X4.here hx rfl (hb hby at_100) rfl kk) ?_
        show own_Fin _ _ _ _ _ _ _ (T4.setTop (mkF m 101 #[.val (.int x0), .val (.long x1), .second, .val (.long x2), .second, .val (.long x3), .second, .val (.long x4), .second, .val (.ref b1), .val (.int (x0 &&& (3 : Int32))), .val (.int ((own_iushr x0 (2 : Int32)) &&& (3 : Int32))), .val (.int ((own_iushr x0 (4 : Int32)) &&& (3 : Int32))), .val (.int ((own_iushr x0 (6 : Int32)) &&& (3 : Int32))), .val (.int ((own_iushr x0 (8 : Int32)) &&& (3 : Int32))), .val (.int ((own_iushr x0 (10 : Int32)) &&& (3 : Int32))), .val (.int ((own_iushr x0 (12 : Int32)) &&& (3 : Int32))), .unset, .unset, .unset, .unset, .unset] [(.long x2), (.long x1), (.int ((own_iushr x0 (6 : Int32)) &&& (3 : Int32))), (.ref b1)]))
        refine own_of (fun _ kk => XS.lxor X4.here hx rfl (hb hby at_101) rfl kk) ?_
        show own_Fin _ _ _ _ _ _ _ (T4.setTop (mkF m 102 #[.val (.int x0), .val (.long x1), .second, .val (.long x2), .second, .val (.long x3), .second, .val (.long x4), .second, .val (.ref b1), .val (.int (x0 &&& (3 : Int32))), .val (.int ((own_iushr x0 (2 : Int32)) &&& (3 : Int32))), .val (.int ((own_iushr x0 (4 : Int32)) &&& (3 : Int32))), .val (.int ((own_iushr x0 (6 : Int32)) &&& (3 : Int32))), .val (.int ((own_iushr x0 (8 : Int32)) &&& (3 : Int32))), .val (.int ((own_iushr x0 (10 : Int32)) &&& (3 : Int32))), .val (.int ((own_iushr x0 (12 : Int32)) &&& (3 : Int32))), .unset, .unset, .unset, .unset, .unset] [(.long (x1 ^^^ x2)), (.int ((own_iushr x0 (6 : Int32)) &&& (3 : Int32))), (.ref b1)]))
        obtain ⟨ct, a1, a2, a3, W, K, B, ks, cn, O, hct, hcn, hks, hB, hW⟩ := S4
        refine own_callV X4 hx hZ (y := (⟨"com/example/shardloom/shardloom/Ties", "add", "(IJ)V"⟩ : MethodName)) (z := (⟨"com/example/shardloom/shardloom/Ties", "add", "(IJ)V"⟩ : MethodName)) hown (hw _ (List.mem_of_getElem? (i := 30) rfl)) (hw _ (List.mem_of_getElem? (i := 31) rfl)) (notFace_of_selects (args := #[]) (mvT hZ (hw _ (List.mem_of_getElem? (i := 33) rfl)))) (hw _ (List.mem_of_getElem? (i := 33) rfl)) (hw _ (List.mem_of_getElem? (i := 32) rfl)) (hw _ (List.mem_of_getElem? (i := 2) rfl)) (hw _ (List.mem_of_getElem? (i := 34) rfl)) (by decide) e4 O.1 (argsL := [(.int ((own_iushr x0 (6 : Int32)) &&& (3 : Int32))), (.long (x1 ^^^ x2))]) (met5 l Z a0 hw b1 ((own_iushr x0 (6 : Int32)) &&& (3 : Int32)) (x1 ^^^ x2) ct a1 a2 a3 W K B ((own_iushr x0 (6 : Int32)) &&& (3 : Int32)).toInt.toNat cn h4 n0 Z4 O (own_k3 _).1 (own_k3 _).2 hct (by omega)) (W := 0) (by decide) (by decide) (by decide) (by decide) (by rw [hml]; rfl) pd_5 rfl (rest := []) rfl (Nat.le_of_eq rfl) (hb hby at_102) ?_
        intro v5 T5 h5 L5 X5 e5 q5
        obtain ⟨rfl, N5q, Z5, O5⟩ := q5
        have N5 := Fr.app N4 N5q
        show own_Fin _ _ _ _ _ _ _ (T5.setTop (mkF m 105 #[.val (.int x0), .val (.long x1), .second, .val (.long x2), .second, .val (.long x3), .second, .val (.long x4), .second, .val (.ref b1), .val (.int (x0 &&& (3 : Int32))), .val (.int ((own_iushr x0 (2 : Int32)) &&& (3 : Int32))), .val (.int ((own_iushr x0 (4 : Int32)) &&& (3 : Int32))), .val (.int ((own_iushr x0 (6 : Int32)) &&& (3 : Int32))), .val (.int ((own_iushr x0 (8 : Int32)) &&& (3 : Int32))), .val (.int ((own_iushr x0 (10 : Int32)) &&& (3 : Int32))), .val (.int ((own_iushr x0 (12 : Int32)) &&& (3 : Int32))), .unset, .unset, .unset, .unset, .unset] []))
        have S5 := own_St.add O5 hct hcn hks hB hW (own_k3 _).1 (own_k3 _).2 (by decide)
        exact own_p2 l Z a0 hw x0 x1 x2 x3 x4 b1 n0 hx hby hml hown hZ hret hlk T5 _ h5 (own_wide X5 (by decide) (by decide)) N5 Z5 e5 (S5.mono (by decide))
set_option maxRecDepth 65536 in
set_option maxHeartbeats 40000000 in
theorem comes_1 {Post : Tables → Env → Array Value → State → Outcome → State → Prop} (hpost : ∀ tb e args s v u, (limb_1_1.after args s (.returned v) u = true ∧ limb_1_2.after args s (.returned v) u = true ∧ True) → FrameEnd s (.returned v) u (Jvm.fieldLocs frame_1_writes args s ++ Jvm.arrayLocs frame_1_arrays args s ++ Jvm.staticLocs frame_1_statics s) 16 128 → Post tb e args s (.returned v) u) :
    ArmFor flags0 classFile x code maxLocals ret World_1 tables_1 room_1 Calls_1 rest_1 Pre_1 Post := by
  intro l hfl _ _ p e ha hc hk s m args below hf hA hF happ hP
  obtain ⟨hcalls, hrest, hpre⟩ := hP
  obtain ⟨-, -, -, hnamed, -, -, -, hat⟩ := (Spec.applies_iff hf).mp happ
  obtain ⟨hg, hn⟩ := and_e (Cond.before_iff.mp (show (Jvm.Cond.and given_1 narrow_1).before args s = true from hpre))
  obtain ⟨g1, g2⟩ := and_e hg
  obtain ⟨g3, g4⟩ := and_e g2
  obtain ⟨g5, g6⟩ := and_e g4
  obtain ⟨g7, g8⟩ := and_e g6
  obtain ⟨g9, g10⟩ := and_e g8
  obtain ⟨w0, w1, w2, w3, w4, rfl⟩ : ∃ w0 w1 w2 w3 w4 : Value, args = #[w0, w1, w2, w3, w4] := by
    have hs : args.size = 5 := by simpa [Cond.value, given_1] using g1
    obtain ⟨L⟩ := args
    match L, hs with
    | [w0, w1, w2, w3, w4], _ => exact ⟨w0, w1, w2, w3, w4, rfl⟩
  have hw := fun d (hd : d ∈ tables_1) => atoms_spec (ws := Jvm.Cond.code x code maxLocals ret :: tables_1) hat d (List.mem_cons_of_mem _ hd)
  obtain ⟨i0, ei0⟩ := is_v g3
  obtain rfl : w0 = (.int i0) := Option.some.inj ei0
  obtain ⟨i1, ei1⟩ := isL_v g5
  obtain rfl : w1 = (.long i1) := Option.some.inj ei1
  obtain ⟨i2, ei2⟩ := isL_v g7
  obtain rfl : w2 = (.long i2) := Option.some.inj ei2
  obtain ⟨i3, ei3⟩ := isL_v g9
  obtain rfl : w3 = (.long i3) := Option.some.inj ei3
  obtain ⟨i4, ei4⟩ := isL_v g10
  obtain rfl : w4 = (.long i4) := Option.some.inj ei4
  obtain ⟨n, o, h1, h2, h3, _, L, rfl, ⟨rfl, N⟩, hq⟩ := own_law l s _ hw i0 i1 i2 i3 i4 s.heap s.heap.size (Nat.le_refl _) tables_1 p e ha hc hk s m _ below hf ((Spec.applies_iff_loose hf).mp happ).1 ⟨rfl, State.Warmed39.refl s, rfl⟩ trivial
  refine ⟨n, _, h1, h2, h3, hpost _ _ _ _ _ _ ⟨Cond.after_iff.mpr rfl, Cond.after_iff.mpr (eq_i res_at (Term.int_eval (1)) rfl), trivial⟩ ⟨hq.1, hq.2.1, (hq.2.2.sift fun y hy => Or.inr (N y hy)).mono (by decide) (by decide)⟩⟩
theorem main_1_1 : Claimed_1_1 := comes_1 fun _ _ _ _ _ _ h hF => ⟨h.1, hF⟩
theorem main_1_2 : Claimed_1_2 := comes_1 fun _ _ _ _ _ _ h hF => ⟨h.2.1, hF⟩
end Jvm.Pilot.@@N@@
namespace Jvm.Pilot.@@N@@
open Jvm Jvm.ClassFile Sem Op Lib Jvm.Free Jvm.Stand Jvm.Pilot.@@N@@.Jvm.D
/-! MADE BY PROGRAM (witnessworld.py) out of the Statement's table words and the real class files: 13 classes; the members and pool entries that the words name. The judged class is class 1, her method 1. -/
namespace start1
open Jvm.ClassFile
def u (s : String) : CpInfo := .utf8 (stringToUtf16 s)
/-- a pool by its gaps: so many unusable entries, then the entry; so many at the end -/
def gap : Nat → List CpInfo → List CpInfo
  | 0, r => r
  | n + 1, r => .unusable :: gap n r
def poolList (es : List (Nat × CpInfo)) (last : Nat) : List CpInfo := es.foldr (fun e r => gap e.1 (e.2 :: r)) (gap last [])
def pool (es : List (Nat × CpInfo)) (last : Nat) : Array CpInfo := ⟨poolList es last⟩
def fileOf (pool : Array CpInfo) (this : Nat) (attrs : Array Attribute := #[]) (ms : Array MethodInfo := #[]) (fl : Nat := 33) (sup : Nat := 0) (ifs : Array Nat := #[]) (fds : Array FieldInfo := #[]) : ClassFile where
  minorVersion := 0
  majorVersion := 65
  constantPool := pool
  accessFlags := fl
  thisClass := this
  superClass := sup
  interfaces := ifs
  fields := fds
  methods := ms
  attributes := attrs
def plain (name : String) (sup : Option ClassId) : Class where
  name := name
  kind := .ordinary
  loader := none
  accessFlags := 33
  super := sup
  interfaces := #[]
  cf := none
  fields := #[]
  methods := #[]
  instanceTypes := #[]
  staticTypes := #[]
  resolved := #[]
  callSites := []
  init := .initialized
  statics := none
  mirror := none

def pool0 : Array CpInfo := pool [(5, u "<init>"), (0, u "()V"), (1, .class_ 10), (1, u "java/lang/Object")] 113

def k0c0 : Code := { maxStack := 0, maxLocals := 1, code := object_method_1_code, exceptionTable := #[], attributes := #[] }
def k0m0 : Method := { name := "<init>", desc := "()V", sig := { parameters := [], returnType := none }, accessFlags := 1, code := some k0c0 }
/-- java/lang/Object -/
def k0 : Class := { plain "java/lang/Object" none with
  accessFlags := 33
  interfaces := #[]
  cf := some (fileOf pool0 8 #[] #[{ accessFlags := 1, nameIndex := 5, descriptorIndex := 6, attributes := #[] }] 33 0 #[] #[])
  fields := #[]
  methods := #[k0m0]
  instanceTypes := #[]
  staticTypes := #[]
  resolved := Array.replicate 124 none
  statics := none }

def pool1 : Array CpInfo := pool [(2, .class_ 4), (1, u "java/lang/Object"), (0, u "<init>"), (0, u "()V"), (0, .class_ 8), (0, u "com/example/shardloom/shardloom/Ties"), (0, .methodref 7 10), (0, .nameAndType 5 11), (0, u "(I)V"), (0, .methodref 7 13), (0, .nameAndType 14 15), (0, u "add"), (0, u "(IJ)V"), (0, .methodref 7 17), (0, .nameAndType 18 6), (0, u "clear"), (0, .methodref 7 20), (0, .nameAndType 21 22), (0, u "count"), (0, u "()I"), (0, .methodref 7 24), (0, .nameAndType 25 26), (0, u "key"), (0, u "(I)I"), (0, .methodref 7 28), (0, .nameAndType 29 30), (0, u "weight"), (0, u "(I)J"), (0, .class_ 32), (0, u "com/example/shardloom/shardloom/TiesClearPinLaw"), (2, u "law"), (0, u "(IJJJJ)Z")] 3

def k1m0 : Method := { name := "<init>", desc := "()V", sig := { parameters := [], returnType := none }, accessFlags := 1, code := none }
def k1c1 : Code := { maxStack := 6, maxLocals := 22, code := code, exceptionTable := #[], attributes := #[] }
def k1m1 : Method := { name := "law", desc := "(IJJJJ)Z", sig := { parameters := [.int, .long, .long, .long, .long], returnType := some .boolean }, accessFlags := 9, code := some k1c1 }
/-- com/example/shardloom/shardloom/TiesClearPinLaw -/
def k1 : Class := { plain "com/example/shardloom/shardloom/TiesClearPinLaw" (some 0) with
  accessFlags := 49
  interfaces := #[]
  cf := some (fileOf pool1 31 #[] #[{ accessFlags := 1, nameIndex := 5, descriptorIndex := 6, attributes := #[] }, { accessFlags := 9, nameIndex := 35, descriptorIndex := 36, attributes := #[] }] 49 2 #[] #[])
  fields := #[]
  methods := #[k1m0, k1m1]
  instanceTypes := #[]
  staticTypes := #[]
  resolved := Array.replicate 40 none
  statics := none }

def pool2 : Array CpInfo := pool [(1, .methodref 2 3), (0, .class_ 4), (0, .nameAndType 5 6), (0, u "java/lang/Object"), (0, u "<init>"), (0, u "()V"), (0, .fieldref 8 9), (0, .class_ 10), (0, .nameAndType 11 12), (0, u "com/example/shardloom/shardloom/Ties"), (0, u "weight"), (0, u "[J"), (0, .fieldref 8 14), (0, .nameAndType 15 16), (0, u "keys"), (0, u "[I"), (0, .fieldref 8 18), (0, .nameAndType 19 20), (0, u "listed"), (0, u "[Z"), (0, .fieldref 8 22), (0, .nameAndType 23 24), (0, u "count"), (0, u "I"), (0, u "(I)V"), (2, u "add"), (0, u "(IJ)V"), (1, u "()I"), (0, u "key"), (0, u "(I)I"), (0, u "(I)J"), (0, u "clear")] 2

def k2c0 : Code := { maxStack := 2, maxLocals := 2, code := prog_81_method_1_code, exceptionTable := #[], attributes := #[] }
def k2m0 : Method := { name := "<init>", desc := "(I)V", sig := { parameters := [.int], returnType := none }, accessFlags := 0, code := some k2c0 }
def k2c1 : Code := { maxStack := 6, maxLocals := 4, code := prog_81_method_2_code, exceptionTable := #[], attributes := #[] }
def k2m1 : Method := { name := "add", desc := "(IJ)V", sig := { parameters := [.int, .long], returnType := none }, accessFlags := 0, code := some k2c1 }
def k2c2 : Code := { maxStack := 1, maxLocals := 1, code := prog_81_method_3_code, exceptionTable := #[], attributes := #[] }
def k2m2 : Method := { name := "count", desc := "()I", sig := { parameters := [], returnType := some .int }, accessFlags := 0, code := some k2c2 }
def k2c3 : Code := { maxStack := 2, maxLocals := 2, code := prog_81_method_4_code, exceptionTable := #[], attributes := #[] }
def k2m3 : Method := { name := "key", desc := "(I)I", sig := { parameters := [.int], returnType := some .int }, accessFlags := 0, code := some k2c3 }
def k2c4 : Code := { maxStack := 2, maxLocals := 2, code := prog_81_method_5_code, exceptionTable := #[], attributes := #[] }
def k2m4 : Method := { name := "weight", desc := "(I)J", sig := { parameters := [.int], returnType := some .long }, accessFlags := 0, code := some k2c4 }
def k2c5 : Code := { maxStack := 4, maxLocals := 2, code := prog_81_method_6_code, exceptionTable := #[], attributes := #[] }
def k2m5 : Method := { name := "clear", desc := "()V", sig := { parameters := [], returnType := none }, accessFlags := 0, code := some k2c5 }
/-- com/example/shardloom/shardloom/Ties -/
def k2 : Class := { plain "com/example/shardloom/shardloom/Ties" (some 0) with
  accessFlags := 48
  interfaces := #[]
  cf := some (fileOf pool2 8 #[] #[{ accessFlags := 0, nameIndex := 5, descriptorIndex := 25, attributes := #[] }, { accessFlags := 0, nameIndex := 28, descriptorIndex := 29, attributes := #[] }, { accessFlags := 0, nameIndex := 23, descriptorIndex := 31, attributes := #[] }, { accessFlags := 0, nameIndex := 32, descriptorIndex := 33, attributes := #[] }, { accessFlags := 0, nameIndex := 11, descriptorIndex := 34, attributes := #[] }, { accessFlags := 0, nameIndex := 35, descriptorIndex := 6, attributes := #[] }] 48 2 #[] #[{ accessFlags := 18, nameIndex := 11, descriptorIndex := 12, attributes := #[] }, { accessFlags := 18, nameIndex := 15, descriptorIndex := 16, attributes := #[] }, { accessFlags := 18, nameIndex := 19, descriptorIndex := 20, attributes := #[] }, { accessFlags := 2, nameIndex := 23, descriptorIndex := 24, attributes := #[] }])
  fields := #[{ name := "weight", type := (.array .long), accessFlags := 18, slot := 0, constantValue := 0 }, { name := "keys", type := (.array .int), accessFlags := 18, slot := 1, constantValue := 0 }, { name := "listed", type := (.array .boolean), accessFlags := 18, slot := 2, constantValue := 0 }, { name := "count", type := .int, accessFlags := 2, slot := 3, constantValue := 0 }]
  methods := #[k2m0, k2m1, k2m2, k2m3, k2m4, k2m5]
  instanceTypes := #[(.array .long), (.array .int), (.array .boolean), .int]
  staticTypes := #[]
  resolved := Array.replicate 38 none
  statics := none }

def pool3 : Array CpInfo := pool [(1, u "java/lang/Cloneable"), (0, .class_ 1), (0, u "java/lang/Object"), (0, .class_ 3)] 3

/-- java/lang/Cloneable -/
def k3 : Class := { plain "java/lang/Cloneable" (some 0) with
  accessFlags := 1537
  interfaces := #[]
  cf := some (fileOf pool3 2 #[] #[] 1537 4 #[] #[])
  fields := #[]
  methods := #[]
  instanceTypes := #[]
  staticTypes := #[]
  resolved := Array.replicate 8 none
  statics := none }

def pool4 : Array CpInfo := pool [(1, u "java/io/Serializable"), (0, .class_ 1), (0, u "java/lang/Object"), (0, .class_ 3)] 3

/-- java/io/Serializable -/
def k4 : Class := { plain "java/io/Serializable" (some 0) with
  accessFlags := 1537
  interfaces := #[]
  cf := some (fileOf pool4 2 #[] #[] 1537 4 #[] #[])
  fields := #[]
  methods := #[]
  instanceTypes := #[]
  staticTypes := #[]
  resolved := Array.replicate 8 none
  statics := none }

/-- the primitive boolean -/
def k5 : Class := { plain "boolean" none with kind := .primitive 'Z', accessFlags := 0x411 }
/-- [Z -/
def k6 : Class := { plain "[Z" (some 0) with kind := .array 5 .boolean, interfaces := #[3, 4], accessFlags := 1041 }

/-- the primitive byte -/
def k7 : Class := { plain "byte" none with kind := .primitive 'B', accessFlags := 0x411 }
/-- [B -/
def k8 : Class := { plain "[B" (some 0) with kind := .array 7 .byte, interfaces := #[3, 4], accessFlags := 1041 }

/-- the primitive int -/
def k9 : Class := { plain "int" none with kind := .primitive 'I', accessFlags := 0x411 }
/-- [I -/
def k10 : Class := { plain "[I" (some 0) with kind := .array 9 .int, interfaces := #[3, 4], accessFlags := 1041 }

/-- the primitive long -/
def k11 : Class := { plain "long" none with kind := .primitive 'J', accessFlags := 0x411 }
/-- [J -/
def k12 : Class := { plain "[J" (some 0) with kind := .array 11 .long, interfaces := #[3, 4], accessFlags := 1041 }

def heap : Heap := #[]
def classes : Array Class := #[k0, k1, k2, k3, k4, k5, k6, k7, k8, k9, k10, k11, k12]
def interned : List (Array UInt16 × Addr) := []
def slotsUsed : Nat := 0
def theMethod : MethodId := ⟨1, 1⟩
def args0 : Array Value := #[.int 5, .long 7, .long 1, .long 2, .long 3]
def aboutOver (below : List Frame) : State where
  vm := { classes := classes, interned := interned.toArray }
  heap := heap
  slotsUsed := slotsUsed
  threads := #[{ frames := .invoking theMethod args0 :: below }]
def below0 : List Frame := [.native { method := ⟨0, 0⟩, args := #[] }]
def about1 : State := aboutOver below0
def p0 : Program := .bare "" "" ""
def e0 : Env := launch0.env 0 0 0
theorem w_frames : about1.frames = Frame.invoking theMethod args0 :: below0 := rfl
set_option maxRecDepth 65536 in
theorem w_args : argsFit about1.vm theMethod args0 = true := by decide +kernel
set_option maxRecDepth 65536 in
theorem w_heap : heapFits about1 = true := by decide +kernel
set_option maxRecDepth 65536 in
theorem w_runnable : about1.curStatus? = some .runnable := by decide +kernel
set_option maxRecDepth 65536 in
theorem w_alone : about1.alone = true := by decide +kernel
set_option maxRecDepth 65536 in
theorem w_named : about1.methodNamed? x = some theMethod := by decide +kernel
set_option maxRecDepth 65536 in
theorem w_hears : about1.hears theMethod below0 = true := by decide +kernel
set_option maxRecDepth 65536 in
theorem w_ripe : about1.ripe theMethod args0 below0 = true := by decide +kernel
theorem w_running : about1.status = .running := rfl
set_option maxRecDepth 65536 in
theorem w_room : about1.hasRoom e0.platform room_1 = true :=
  launch0.hasRoom_least _ room_1 (by decide +kernel) (by decide +kernel) (by decide +kernel) (by decide +kernel) (by decide +kernel) (by decide +kernel)
theorem allAtoms_all (ts : List Jvm.Cond) (a : Array Jvm.Value) (st : Jvm.State) : (allAtoms ts).before a st = ts.all (fun c => c.before a st) := by
  induction ts with
  | nil => rfl
  | cons c t ih =>
    show (Jvm.Cond.and c (allAtoms t)).before a st = _
    rw [Jvm.Cond.before_and, ih, List.all_cons]
def words1 : List Jvm.Cond := Jvm.Cond.code x code maxLocals ret :: tables_1
/-- a 'code' word, met by the world's own term for the bytes: nothing is compared byte by byte -/
theorem code_word {y : MethodName} {bytes : ByteArray} {mx : Nat} {rt : Option FieldType} {a : Array Value} {s : State} {m : MethodId} {meth : Method} {c : Code} (h1 : s.methodNamed? y = some m) (h2 : s.vm.method? m = some meth) (h3 : meth.code = some c) (h4 : c.code = bytes)
    (h5 : (c.maxLocals == mx && c.exceptionTable.isEmpty && decide (c.maxStack ≤ mostOperands) && decide (meth.sig.returnType = rt) && !meth.locks && decide (parseMethodDescriptor y.desc = some meth.sig)) = true) : (Jvm.Cond.code y bytes mx rt).before a s = true := by
  simp only [Bool.and_eq_true, beq_iff_eq, Bool.not_eq_true', decide_eq_true_eq] at h5
  obtain ⟨⟨⟨⟨⟨g1, g2⟩, g3⟩, g4⟩, g5⟩, g6⟩ := h5
  simp [Cond.before, Cond.holds, Cond.value, h1, h2, h3, h4, g1, g2, g3, g4, g5, g6]
def isCode : Jvm.Cond → Bool
  | .code _ _ _ _ => true
  | _ => false
theorem all_split {L : List Jvm.Cond} {P : Jvm.Cond → Bool} (h1 : L.all (fun c => isCode c || P c) = true) (h2 : ∀ c ∈ L.filter isCode, P c = true) : L.all P = true := by
  refine List.all_eq_true.mpr fun c hc => ?_
  have h := List.all_eq_true.mp h1 c hc
  rcases Bool.eq_false_or_eq_true (isCode c) with hi | hi
  · exact h2 c (List.mem_filter.mpr ⟨hc, hi⟩)
  · simpa [hi] using h
set_option maxRecDepth 65536 in
theorem w_c0 : (Jvm.Cond.code x code maxLocals ret).before args0 about1 = true := code_word (m := ⟨1, 1⟩) (meth := k1m1) (c := k1c1) (by decide +kernel) rfl rfl rfl (by decide +kernel)
set_option maxRecDepth 65536 in
theorem w_c1 : (Jvm.Cond.code ({ cls := "com/example/shardloom/shardloom/Ties", name := "<init>", desc := "(I)V" } : Jvm.MethodName) prog_81_method_1_code (2 : Nat) (Option.none : Option Jvm.ClassFile.FieldType)).before args0 about1 = true := code_word (m := ⟨2, 0⟩) (meth := k2m0) (c := k2c0) (by decide +kernel) rfl rfl rfl (by decide +kernel)
set_option maxRecDepth 65536 in
theorem w_c2 : (Jvm.Cond.code ({ cls := "java/lang/Object", name := "<init>", desc := "()V" } : Jvm.MethodName) object_method_1_code (1 : Nat) (Option.none : Option Jvm.ClassFile.FieldType)).before args0 about1 = true := code_word (m := ⟨0, 0⟩) (meth := k0m0) (c := k0c0) (by decide +kernel) rfl rfl rfl (by decide +kernel)
set_option maxRecDepth 65536 in
theorem w_c3 : (Jvm.Cond.code ({ cls := "com/example/shardloom/shardloom/Ties", name := "clear", desc := "()V" } : Jvm.MethodName) prog_81_method_6_code (2 : Nat) (Option.none : Option Jvm.ClassFile.FieldType)).before args0 about1 = true := code_word (m := ⟨2, 5⟩) (meth := k2m5) (c := k2c5) (by decide +kernel) rfl rfl rfl (by decide +kernel)
set_option maxRecDepth 65536 in
theorem w_c4 : (Jvm.Cond.code ({ cls := "com/example/shardloom/shardloom/Ties", name := "count", desc := "()I" } : Jvm.MethodName) prog_81_method_3_code (1 : Nat) (Option.some Jvm.ClassFile.FieldType.int)).before args0 about1 = true := code_word (m := ⟨2, 2⟩) (meth := k2m2) (c := k2c2) (by decide +kernel) rfl rfl rfl (by decide +kernel)
set_option maxRecDepth 65536 in
theorem w_c5 : (Jvm.Cond.code ({ cls := "com/example/shardloom/shardloom/Ties", name := "add", desc := "(IJ)V" } : Jvm.MethodName) prog_81_method_2_code (4 : Nat) (Option.none : Option Jvm.ClassFile.FieldType)).before args0 about1 = true := code_word (m := ⟨2, 1⟩) (meth := k2m1) (c := k2c1) (by decide +kernel) rfl rfl rfl (by decide +kernel)
set_option maxRecDepth 65536 in
theorem w_c6 : (Jvm.Cond.code ({ cls := "com/example/shardloom/shardloom/Ties", name := "key", desc := "(I)I" } : Jvm.MethodName) prog_81_method_4_code (2 : Nat) (Option.some Jvm.ClassFile.FieldType.int)).before args0 about1 = true := code_word (m := ⟨2, 3⟩) (meth := k2m3) (c := k2c3) (by decide +kernel) rfl rfl rfl (by decide +kernel)
set_option maxRecDepth 65536 in
theorem w_c7 : (Jvm.Cond.code ({ cls := "com/example/shardloom/shardloom/Ties", name := "weight", desc := "(I)J" } : Jvm.MethodName) prog_81_method_5_code (2 : Nat) (Option.some Jvm.ClassFile.FieldType.long)).before args0 about1 = true := code_word (m := ⟨2, 4⟩) (meth := k2m4) (c := k2c4) (by decide +kernel) rfl rfl rfl (by decide +kernel)
def codes1 : List Jvm.Cond := [Jvm.Cond.code x code maxLocals ret, Jvm.Cond.code ({ cls := "com/example/shardloom/shardloom/Ties", name := "<init>", desc := "(I)V" } : Jvm.MethodName) prog_81_method_1_code (2 : Nat) (Option.none : Option Jvm.ClassFile.FieldType), Jvm.Cond.code ({ cls := "java/lang/Object", name := "<init>", desc := "()V" } : Jvm.MethodName) object_method_1_code (1 : Nat) (Option.none : Option Jvm.ClassFile.FieldType), Jvm.Cond.code ({ cls := "com/example/shardloom/shardloom/Ties", name := "clear", desc := "()V" } : Jvm.MethodName) prog_81_method_6_code (2 : Nat) (Option.none : Option Jvm.ClassFile.FieldType), Jvm.Cond.code ({ cls := "com/example/shardloom/shardloom/Ties", name := "count", desc := "()I" } : Jvm.MethodName) prog_81_method_3_code (1 : Nat) (Option.some Jvm.ClassFile.FieldType.int), Jvm.Cond.code ({ cls := "com/example/shardloom/shardloom/Ties", name := "add", desc := "(IJ)V" } : Jvm.MethodName) prog_81_method_2_code (4 : Nat) (Option.none : Option Jvm.ClassFile.FieldType), Jvm.Cond.code ({ cls := "com/example/shardloom/shardloom/Ties", name := "key", desc := "(I)I" } : Jvm.MethodName) prog_81_method_4_code (2 : Nat) (Option.some Jvm.ClassFile.FieldType.int), Jvm.Cond.code ({ cls := "com/example/shardloom/shardloom/Ties", name := "weight", desc := "(I)J" } : Jvm.MethodName) prog_81_method_5_code (2 : Nat) (Option.some Jvm.ClassFile.FieldType.long)]
set_option maxRecDepth 65536 in
theorem codes_eq : words1.filter isCode = codes1 := rfl
theorem w_codes : ∀ c ∈ words1.filter isCode, c.before args0 about1 = true := by
  rw [codes_eq]
  intro c hc
  simp only [codes1, List.mem_cons, List.not_mem_nil, or_false] at hc
  rcases hc with rfl | rfl | rfl | rfl | rfl | rfl | rfl | rfl
  · exact w_c0
  · exact w_c1
  · exact w_c2
  · exact w_c3
  · exact w_c4
  · exact w_c5
  · exact w_c6
  · exact w_c7
set_option maxRecDepth 65536 in
theorem w_t1 : (words1.take 24).all (fun c => isCode c || c.before args0 about1) = true := by decide +kernel
set_option maxRecDepth 65536 in
theorem w_t2 : (words1.drop 24).all (fun c => isCode c || c.before args0 about1) = true := by decide +kernel
theorem w_tables : (allAtoms (Jvm.Cond.code x code maxLocals ret :: tables_1)).before args0 about1 = true := by
  rw [allAtoms_all]
  show words1.all (fun c => c.before args0 about1) = true
  refine all_split ?_ w_codes
  rw [← List.take_append_drop 24 words1, List.all_append, w_t1, w_t2]
  rfl
set_option maxRecDepth 65536 in
theorem w_case : (Jvm.Cond.and given_1 narrow_1).before args0 about1 = true := by decide +kernel
theorem w_applies : (headSpec (Jvm.Cond.code x code maxLocals ret :: tables_1) room_1).applies x e0.platform about1 = true :=
  (Spec.applies_iff w_frames).mpr ⟨w_running, w_runnable, w_alone, w_named, w_hears, w_ripe, w_room, w_tables⟩
theorem atStart : AtStart classFile x code maxLocals ret World_1 tables_1 room_1 Calls_1 rest_1 Pre_1 launch0 p0 e0 about1 theMethod args0 below0 :=
  ⟨lists_1, trivial, launch0.admits_env _ _ _, launch0.least_env, fairChoices_fair.cas, fairChoices_fair.clock, w_frames, w_args, w_heap, w_applies, trivial, trivial, w_case⟩
end start1
theorem witness_1 : WitnessClaimed_1 := ⟨start1.p0, start1.e0, start1.about1, start1.theMethod, start1.args0, start1.below0, start1.atStart⟩
end Jvm.Pilot.@@N@@
