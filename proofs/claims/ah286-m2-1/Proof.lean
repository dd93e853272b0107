import JvmDerived
import JvmDerived.Pilot.@@N@@Statement
import JvmDerived.Pilot.@@N@@Code
set_option linter.unusedVariables false
set_option linter.unusedSimpArgs false
namespace Jvm.RoadKit
open Sem ClassFile Op Lib Jvm.Stand Jvm.Free Jvm.LawKit
section OwnKit
variable {p : Program} {l : Launch} {e : Env} {R : Room} {s : State} {m : MethodId} {args : Array Value} {below : List Frame} {meth : Method} {c : Code} {T : State} {locs : List Loc} {cells slots : Nat} {Z : State} {a0 : Array Value} {h h' : Heap} {a b : Addr}
variable {C N : Nat} {Q : Option Value → Heap → List Loc → Prop} {pc : Nat} {Ls : Array Slot} {rest : List Value}
/-- from the state A the invocation returns, with what Q says of the value, the heap and the places written -/
def own_Fin (p : Program) (e : Env) (below : List Frame) (s : State) (C N : Nat) (Q : Option Value → Heap → List Loc → Prop) (A : State) : Prop :=
  ∃ s₂ o, Steps p.tables e below A s₂ ∧ s₂.status = .running ∧ Ended s₂ below o ∧ ∃ v L, o = .returned v ∧ Q v s₂.heap L ∧ FrameEnd s o s₂ L C N
theorem own_of {A B : State} (st : ∀ t, Steps p.tables e below B t → Steps p.tables e below A t) (k : own_Fin p e below s C N Q B) : own_Fin p e below s C N Q A := by
  obtain ⟨s₂, o, h1, h2⟩ := k
  exact ⟨s₂, o, st _ h1, h2⟩
theorem own_mono {Q' : Option Value → Heap → List Loc → Prop} {A : State} (hq : ∀ v h L, Q v h L → Q' v h L) (k : own_Fin p e below s C N Q A) : own_Fin p e below s C N Q' A := by
  obtain ⟨s₂, o, h1, h2, h3, v, L, h4, h5, h6⟩ := k
  exact ⟨s₂, o, h1, h2, h3, v, L, h4, hq _ _ _ h5, h6⟩
/-- a body's contract: called with as' over the heap h0 it returns, and Q holds -/
def own_Met (l : Launch) (Z : State) (y : MethodName) (bytes : ByteArray) (maxL : Nat) (ret : Option FieldType) (rm : Room) (as' : Array Value) (h0 : Heap) (Q : Option Value → Heap → List Loc → Prop) : Prop :=
  ∀ ws : List Cond, MetFree l y (head1 (Cond.code y bytes maxL ret :: ws) rm) (fun a U => a = as' ∧ Z.Warmed39 U.vm ∧ U.heap = h0) (fun _ _ _ _ _ => True) (fun _ U o U' => ∃ v L, o = .returned v ∧ Q v U'.heap L ∧ FrameEnd U o U' L rm.cells rm.slots)
theorem own_met {y : MethodName} {bytes : ByteArray} {maxL : Nat} {ret : Option FieldType} {rm : Room} {as' : Array Value} {h0 : Heap} (hpl : plainFor y = true)
    (body : ∀ (p : Program) (e : Env) (s : State) (m : MethodId) (below : List Frame) (meth : Method) (c : Code) (T : State), Stand p l e rm s m as' below meth c T [] 0 0 → p.tables.exec = Jvm.exec → c.code = bytes → c.maxLocals = maxL → s.vm.findClass y.cls = some m.cls → Z.Warmed39 s.vm → T.heap = h0 → meth.sig.returnType = ret → meth.locks = false → meth.name = y.name →
      own_Fin p e below s rm.cells rm.slots Q (T.setTop (entryFrame m as' maxL))) : own_Met l Z y bytes maxL ret rm as' h0 Q := by
  intro ws
  refine MetFree.of_bodySF hpl hisR ?_
  intro p e s m args below meth c s₁ Bd hml0 hP hK
  obtain ⟨rfl, hZ, hh⟩ := hP
  have X0 : Stand p l e rm s m _ below meth c s₁ [] 0 0 := Stand.of_body Bd
  exact body p e s m below meth c s₁ X0 Bd.exec Bd.bytes hml0 (findClass_of_methodNamed Bd.named) hZ (by rw [← hh, Bd.state]; rfl) Bd.returns Bd.notSynchronized (name_of_methodNamed Bd.named Bd.method).1
/-! returns -/
theorem own_retI (X : Stand p l e R s m args below meth c T locs cells slots) (hx : p.tables.exec = Jvm.exec) (hlk : meth.locks = false) (eT : T.heap = h) {z : Int32} (hret : meth.sig.returnType = some .int) (hd : decode c.code pc = .ok (.ireturn, 1)) (hC : cells ≤ C) (hN : slots ≤ N) (hQ : Q (some (.int z)) h locs) :
    own_Fin p e below s C N Q (T.setTop (mkF m pc Ls (.int z :: rest))) := by
  obtain ⟨fs, hr, hrun, hended, hW, hsame⟩ := X.leave (v := some (.int z)) (fun h => by rw [hret] at h; cases h) hlk
  exact ⟨_, _, retOut X hx hret rfl (Or.inl ⟨rfl, Or.inl rfl, _, rfl⟩) hd hr, hrun, hended, _, _, rfl, (by show Q _ T.heap _; rw [eT]; exact hQ), ⟨_, rfl⟩, hW, hsame.mono hC hN⟩
theorem own_retN (X : Stand p l e R s m args below meth c T locs cells slots) (hx : p.tables.exec = Jvm.exec) (hlk : meth.locks = false) (eT : T.heap = h) {z z' : Int32} {t : FieldType} (hret : meth.sig.returnType = some t) (ht : t = .boolean ∨ t = .byte ∨ t = .char ∨ t = .short) (hd : decode c.code pc = .ok (.ireturn, 1)) (hC : cells ≤ C) (hN : slots ≤ N) (hz : nar t z = z') (hQ : Q (some (.int z')) h locs) :
    own_Fin p e below s C N Q (T.setTop (mkF m pc Ls (.int z :: rest))) := by
  subst hz
  obtain ⟨fs, hr, hrun, hended, hW, hsame⟩ := X.leave (v := some (.int (nar t z))) (fun h => by rw [hret] at h; cases h) hlk
  exact ⟨_, _, retN X hx hret ht hd hr, hrun, hended, _, _, rfl, (by show Q _ T.heap _; rw [eT]; exact hQ), ⟨_, rfl⟩, hW, hsame.mono hC hN⟩
theorem own_retJ (X : Stand p l e R s m args below meth c T locs cells slots) (hx : p.tables.exec = Jvm.exec) (hlk : meth.locks = false) (eT : T.heap = h) {z : Int64} (hret : meth.sig.returnType = some .long) (hd : decode c.code pc = .ok (.lreturn, 1)) (hC : cells ≤ C) (hN : slots ≤ N) (hQ : Q (some (.long z)) h locs) :
    own_Fin p e below s C N Q (T.setTop (mkF m pc Ls (.long z :: rest))) := by
  obtain ⟨fs, hr, hrun, hended, hW, hsame⟩ := X.leave (v := some (.long z)) (fun h => by rw [hret] at h; cases h) hlk
  exact ⟨_, _, retOut X hx hret rfl (Or.inr (Or.inl ⟨rfl, rfl, _, rfl⟩)) hd hr, hrun, hended, _, _, rfl, (by show Q _ T.heap _; rw [eT]; exact hQ), ⟨_, rfl⟩, hW, hsame.mono hC hN⟩
theorem own_retA (X : Stand p l e R s m args below meth c T locs cells slots) (hx : p.tables.exec = Jvm.exec) (hlk : meth.locks = false) (eT : T.heap = h) {t : FieldType} (ht : t.isReference = true) (hret : meth.sig.returnType = some t) (hn : narrow t (.ref a) = .ref a) (hd : decode c.code pc = .ok (.areturn, 1)) (hC : cells ≤ C) (hN : slots ≤ N) (hQ : Q (some (.ref a)) h locs) :
    own_Fin p e below s C N Q (T.setTop (mkF m pc Ls (.ref a :: rest))) := by
  obtain ⟨fs, hr, hrun, hended, hW, hsame⟩ := X.leave (v := some (.ref a)) (fun h => by rw [hret] at h; cases h) hlk
  exact ⟨_, _, retOut X hx hret hn (Or.inr (Or.inr (Or.inr (Or.inr ⟨rfl, ht, rfl⟩)))) hd hr, hrun, hended, _, _, rfl, (by show Q _ T.heap _; rw [eT]; exact hQ), ⟨_, rfl⟩, hW, hsame.mono hC hN⟩
theorem own_retV (X : Stand p l e R s m args below meth c T locs cells slots) (hx : p.tables.exec = Jvm.exec) (hlk : meth.locks = false) (eT : T.heap = h) (hret : meth.sig.returnType = none) (hd : decode c.code pc = .ok (.return_, 1)) (hC : cells ≤ C) (hN : slots ≤ N) (hQ : Q none h locs) :
    own_Fin p e below s C N Q (T.setTop (mkF m pc Ls [])) := by
  obtain ⟨fs, hr, hrun, hended, hW, hsame⟩ := X.leave (v := none) (fun _ => rfl) hlk
  exact ⟨_, _, X.returnOut hx hret hd hr, hrun, hended, _, _, rfl, (by show Q _ T.heap _; rw [eT]; exact hQ), ⟨_, rfl⟩, hW, hsame.mono hC hN⟩
/-! calls -/
theorem own_callS (X : Stand p l e R s m args below meth c T locs cells slots) (hx : p.tables.exec = Jvm.exec) (hZ : Z.Warmed39 s.vm) {own : String} {index : Nat} {y : MethodName} {bytes : ByteArray} {maxL : Nat} {ret : Option FieldType} {rm : Room} {W : Nat} {argsL : List Value} {Qc : Option Value → Heap → List Loc → Prop}
    (hown : s.vm.findClass own = some m.cls) (wl : (Cond.methodLink own index y).before a0 Z = true) (wst : (Cond.static y).before a0 Z = true) (wi : (Cond.initialized y.cls).before a0 Z = true) (wc : (Cond.code y bytes maxL ret).before a0 Z = true) (hy : y.cls ≠ "java/lang/invoke/MethodHandle" ∧ y.cls ≠ "java/lang/invoke/VarHandle")
    (eT : T.heap = h) (hM : own_Met l Z y bytes maxL ret rm argsL.toArray h Qc) (hfr : rm.frames + 1 ≤ R.frames) (hlo : W + (maxL + 11) + rm.locals ≤ R.locals) (hce : cells + rm.cells ≤ R.cells) (hsl : slots + rm.slots ≤ R.slots)
    (hsize : Ls.size = c.maxLocals) {ps : List FieldType} {r : Option FieldType} (hpd : parseMethodDescriptor y.desc = some ⟨ps, r⟩) (hlen : argsL.length = ps.length) {St : List Value} (hs : St = argsL.reverse ++ rest) (hW : (rest.map fun v => v.category).sum ≤ W) (hd : decode c.code pc = .ok (.invokestatic index, 3))
    (k : ∀ v T' h' L, Stand p l e R s m args below meth c T' (locs ++ L) (cells + rm.cells) (slots + rm.slots) → T'.heap = h' → Qc v h' L → own_Fin p e below s C N Q (T'.setTop (mkF m (pc + 3) Ls (v.toList ++ rest)))) :
    own_Fin p e below s C N Q (T.setTop (mkF m pc Ls St)) := by
  subst hs
  obtain ⟨v, _, ⟨T', L', k', n'⟩, -, X', ⟨Lc, hQ, l1, y1, z1⟩, st⟩ := Jvm.LawKit.callS X hx (y := y) hown (mvT hZ wl) (mvT hZ wst) (mvT hZ wi) (mvT hZ wc) hy (backOf (W := W) (hM []) hZ wc wi hfr hlo) (g := mkF m pc Ls (argsL.reverse ++ rest)) rfl hsize (argsL := argsL) (rest := rest) (lenOf hpd hlen) rfl (by show 2 * 0 + _ ≤ _; simpa using hW) hd (fun _ _ => ⟨rfl, eT, hce, hsl⟩)
  dsimp only [Pt.U, Pt.locs, Pt.cells, Pt.slots] at X' l1 y1 z1 st hQ
  subst l1 y1 z1
  exact own_of st (k _ _ _ _ X' rfl hQ)
def own_Pure (r : Value) (h : Heap) : Option Value → Heap → List Loc → Prop := fun v h' L => v = some r ∧ h' = h ∧ L = []
theorem own_callP (X : Stand p l e R s m args below meth c T locs cells slots) (hx : p.tables.exec = Jvm.exec) (hZ : Z.Warmed39 s.vm) {own : String} {index : Nat} {y : MethodName} {bytes : ByteArray} {maxL : Nat} {ret : Option FieldType} {fr lo : Nat} {W : Nat} {argsL : List Value} {rv : Value}
    (hown : s.vm.findClass own = some m.cls) (wl : (Cond.methodLink own index y).before a0 Z = true) (wst : (Cond.static y).before a0 Z = true) (wi : (Cond.initialized y.cls).before a0 Z = true) (wc : (Cond.code y bytes maxL ret).before a0 Z = true) (hy : y.cls ≠ "java/lang/invoke/MethodHandle" ∧ y.cls ≠ "java/lang/invoke/VarHandle")
    (eT : T.heap = h) (hM : own_Met l Z y bytes maxL ret { frames := fr, cells := 0, slots := 0, locals := lo } argsL.toArray h (own_Pure rv h)) (hfr : fr + 1 ≤ R.frames) (hlo : W + (maxL + 11) + lo ≤ R.locals) (hce : cells ≤ R.cells) (hsl : slots ≤ R.slots)
    (hsize : Ls.size = c.maxLocals) {ps : List FieldType} {r : Option FieldType} (hpd : parseMethodDescriptor y.desc = some ⟨ps, r⟩) (hlen : argsL.length = ps.length) {St : List Value} (hs : St = argsL.reverse ++ rest) (hW : (rest.map fun v => v.category).sum ≤ W) (hd : decode c.code pc = .ok (.invokestatic index, 3))
    (k : ∀ T', Stand p l e R s m args below meth c T' locs cells slots → T'.heap = h → own_Fin p e below s C N Q (T'.setTop (mkF m (pc + 3) Ls (rv :: rest)))) :
    own_Fin p e below s C N Q (T.setTop (mkF m pc Ls St)) := by
  refine own_callS X hx hZ hown wl wst wi wc hy eT hM hfr hlo hce hsl hsize hpd hlen hs hW hd ?_
  rintro v T' h' L X' e' ⟨rfl, rfl, rfl⟩
  rw [List.append_nil] at X'
  exact k T' X' e'
theorem own_callV (X : Stand p l e R s m args below meth c T locs cells slots) (hx : p.tables.exec = Jvm.exec) (hZ : Z.Warmed39 s.vm) {own K : String} {index : Nat} {y z : MethodName} {bytes : ByteArray} {maxL : Nat} {ret : Option FieldType} {rm : Room} {W : Nat} {argsL : List Value} {Qc : Option Value → Heap → List Loc → Prop}
    (hown : s.vm.findClass own = some m.cls) (wl : (Cond.methodLink own index y).before a0 Z = true) (wd : (Cond.declares y).before a0 Z = true) (hnf : NotFace s y) (wse : (Cond.selects K y z).before a0 Z = true) (win : (Cond.instanceMethod z).before a0 Z = true) (wi : (Cond.initialized z.cls).before a0 Z = true) (wc : (Cond.code z bytes maxL ret).before a0 Z = true) (hy : y.cls ≠ "java/lang/invoke/MethodHandle" ∧ y.cls ≠ "java/lang/invoke/VarHandle")
    (eT : T.heap = h) (E : Exa Z h b K) (hM : own_Met l Z z bytes maxL ret rm (.ref b :: argsL).toArray h Qc) (hfr : rm.frames + 1 ≤ R.frames) (hlo : W + (maxL + 11) + rm.locals ≤ R.locals) (hce : cells + rm.cells ≤ R.cells) (hsl : slots + rm.slots ≤ R.slots)
    (hsize : Ls.size = c.maxLocals) {ps : List FieldType} {r : Option FieldType} (hpd : parseMethodDescriptor y.desc = some ⟨ps, r⟩) (hlen : argsL.length = ps.length) {St : List Value} (hs : St = argsL.reverse ++ .ref b :: rest) (hW : (rest.map fun v => v.category).sum ≤ W) (hd : decode c.code pc = .ok (.invokevirtual index, 3))
    (k : ∀ v T' h' L, Stand p l e R s m args below meth c T' (locs ++ L) (cells + rm.cells) (slots + rm.slots) → T'.heap = h' → Qc v h' L → own_Fin p e below s C N Q (T'.setTop (mkF m (pc + 3) Ls (v.toList ++ rest)))) :
    own_Fin p e below s C N Q (T.setTop (mkF m pc Ls St)) := by
  subst hs
  obtain ⟨cq, kq, qa, qb, qc⟩ := isOf hZ eT E
  obtain ⟨v, _, ⟨T', L', k', n'⟩, -, X', ⟨Lc, hQ, l1, y1, z1⟩, st⟩ := X.virtualBack hx (y := y) (z := z) hown (mvT hZ wl) (mvT hZ wd) hnf (mvT hZ wse) (mvT hZ win) hy (backOf (W := W) (hM []) hZ wc wi hfr hlo) qa qc (g := mkF m pc Ls (argsL.reverse ++ .ref b :: rest)) rfl hsize (Steps.refl _) (argsL := argsL) (rest := rest) (lenOf hpd hlen) rfl (by show 2 * 0 + _ ≤ _; simpa using hW) hd (fun _ _ => ⟨rfl, eT, hce, hsl⟩)
  dsimp only [Pt.U, Pt.locs, Pt.cells, Pt.slots] at X' l1 y1 z1 st hQ
  subst l1 y1 z1
  exact own_of (fun t k => st.trans k) (k _ _ _ _ X' rfl hQ)
theorem own_callC (X : Stand p l e R s m args below meth c T locs cells slots) (hx : p.tables.exec = Jvm.exec) (hZ : Z.Warmed39 s.vm) {own : String} {index : Nat} {y : MethodName} {bytes : ByteArray} {maxL : Nat} {rm : Room} {W : Nat} {argsL : List Value} {Qc : Option Value → Heap → List Loc → Prop} (hn : y.name = "<init>")
    (hown : s.vm.findClass own = some m.cls) (wl : (Cond.methodLink own index y).before a0 Z = true) (win : (Cond.instanceMethod y).before a0 Z = true) (wi : (Cond.initialized y.cls).before a0 Z = true) (wc : (Cond.code y bytes maxL none).before a0 Z = true) (hy : y.cls ≠ "java/lang/invoke/MethodHandle" ∧ y.cls ≠ "java/lang/invoke/VarHandle")
    (eT : T.heap = h) (hM : own_Met l Z y bytes maxL none rm (.ref b :: argsL).toArray h Qc) (hfr : rm.frames + 1 ≤ R.frames) (hlo : W + (maxL + 11) + rm.locals ≤ R.locals) (hce : cells + rm.cells ≤ R.cells) (hsl : slots + rm.slots ≤ R.slots)
    (hsize : Ls.size = c.maxLocals) {ps : List FieldType} {r : Option FieldType} (hpd : parseMethodDescriptor y.desc = some ⟨ps, r⟩) (hlen : argsL.length = ps.length) {St : List Value} (hs : St = argsL.reverse ++ .ref b :: rest) (hW : (rest.map fun v => v.category).sum ≤ W) (hd : decode c.code pc = .ok (.invokespecial index, 3))
    (k : ∀ v T' h' L, Stand p l e R s m args below meth c T' (locs ++ L) (cells + rm.cells) (slots + rm.slots) → T'.heap = h' → Qc v h' L → own_Fin p e below s C N Q (T'.setTop (mkF m (pc + 3) Ls (v.toList ++ rest)))) :
    own_Fin p e below s C N Q (T.setTop (mkF m pc Ls St)) := by
  subst hs
  obtain ⟨v, _, ⟨T', L', k', n'⟩, -, X', ⟨Lc, hQ, l1, y1, z1⟩, st⟩ := X.specialBack hx (y := y) hn hown (mvT hZ wl) (mvT hZ win) (mvT hZ wc) hy (backOf (W := W) (hM []) hZ wc wi hfr hlo) (g := mkF m pc Ls (argsL.reverse ++ .ref b :: rest)) rfl hsize (Steps.refl _) (a := b) (argsL := argsL) (rest := rest) (lenOf hpd hlen) rfl (by show 2 * 0 + _ ≤ _; simpa using hW) hd (fun _ _ => ⟨rfl, eT, hce, hsl⟩)
  dsimp only [Pt.U, Pt.locs, Pt.cells, Pt.slots] at X' l1 y1 z1 st hQ
  subst l1 y1 z1
  exact own_of (fun t k => st.trans k) (k _ _ _ _ X' rfl hQ)
/-! arrays: n places, the j-th holds f j -/
def own_Arf (Z : State) (h : Heap) (a : Addr) (ty : FieldType) (n : Nat) (f : Nat → Value) : Prop := ∃ cl : Cell, Arr Z h a cl ty ∧ cl.slots.size = n ∧ ∀ j, j < n → cl.slots[j]? = some (f j)
section Ar
variable {ty : FieldType} {n : Nat} {f g : Nat → Value} {sl : Nat} {v : Value} {ws : List Addr}
theorem own_Arf.lt (F : own_Arf Z h a ty n f) : a < h.size := by obtain ⟨cl, A, -⟩ := F; exact A.lt
theorem own_Arf.ext (F : own_Arf Z h a ty n f) (E : Ext h h') : own_Arf Z h' a ty n f := by obtain ⟨cl, A, r⟩ := F; exact ⟨cl, A.ext E, r⟩
theorem own_Arf.other (F : own_Arf Z h b ty n f) (W : Wr h h' a sl v) (q : b ≠ a) : own_Arf Z h' b ty n f := by obtain ⟨cl, A, r⟩ := F; exact ⟨cl, A.other W q, r⟩
theorem own_Arf.keep (F : own_Arf Z h a ty n f) (K : Keep h h' ws) (q : a ∉ ws) : own_Arf Z h' a ty n f := by obtain ⟨cl, A, r⟩ := F; exact ⟨cl, ⟨K.2.1 a cl A.1 q, A.2⟩, r⟩
theorem own_Arf.congr (F : own_Arf Z h a ty n f) (q : ∀ j, j < n → f j = g j) : own_Arf Z h a ty n g := by obtain ⟨cl, A, r, s⟩ := F; exact ⟨cl, A, r, fun j hj => by rw [s j hj, q j hj]⟩
theorem own_Arf.set (F : own_Arf Z h a ty n f) (W : Wr h h' a sl v) : own_Arf Z h' a ty n (fun j => if j = sl then v else f j) := by
  obtain ⟨cl, A, r, q⟩ := F
  refine ⟨_, A.same W, by rw [sz_set]; exact r, fun j hj => ?_⟩
  by_cases u : j = sl
  · subst u; simp [Cell.setSlot, r, hj]
  · show (cl.slots.setIfInBounds sl v)[j]? = some (if j = sl then v else f j)
    rw [if_neg u, Array.getElem?_setIfInBounds_ne (Ne.symm u)]; exact q j hj
theorem own_Arf.new {k : ClassId} {z : Int32} (A : Arr Z h a (newA k ty z) ty) (hz : z.toInt = n) : own_Arf Z h a ty n (fun _ => defaultValue ty) := by
  have e : z.toNatClampNeg = n := by simp only [Int32.toNatClampNeg, hz]; rfl
  refine ⟨_, A, by rw [sz_new]; exact e, fun j hj => ?_⟩
  simp [newA, e, hj]
theorem own_in {j : Int32} {i k : Nat} (hj : j.toInt = i) (hi : i < k) : ¬ (j < 0 ∨ k ≤ j.toNatClampNeg) := by
  simp only [Int32.lt_iff_toInt_lt, Int32.toNatClampNeg, hj, Int32.reduceToInt]; omega
theorem own_nc {j : Int32} {i : Nat} (hj : j.toInt = i) : j.toNatClampNeg = i := by simp only [Int32.toNatClampNeg, hj]; rfl
theorem own_iaload (X : Stand p l e R s m args below meth c T locs cells slots) (hx : p.tables.exec = Jvm.exec) (hZ : Z.Warmed39 s.vm) (eT : T.heap = h) (F : own_Arf Z h a .int n f) {j : Int32} {i : Nat} (hj : j.toInt = i) (hi : i < n) (hv : f i = v) (hd : decode c.code pc = .ok (.iaload, 1))
    (k : own_Fin p e below s C N Q (T.setTop (mkF m (pc + 1) Ls (v :: rest)))) : own_Fin p e below s C N Q (T.setTop (mkF m pc Ls (.int j :: .ref a :: rest))) := by
  obtain ⟨cl, A, r, q⟩ := F
  exact own_of (fun t kk => X.iaload hx (j := j) (v := v) (by rw [eT]; exact A.1) (State.isArrayOf_alike hZ.alike A.2.1) A.2.2 (own_in hj (by rw [r]; exact hi)) (by rw [own_nc hj, q i hi, hv]) (g := mkF m pc Ls (.int j :: .ref a :: rest)) rfl rfl hd t kk) k
theorem own_laload (X : Stand p l e R s m args below meth c T locs cells slots) (hx : p.tables.exec = Jvm.exec) (hZ : Z.Warmed39 s.vm) (eT : T.heap = h) (F : own_Arf Z h a .long n f) {j : Int32} {i : Nat} (hj : j.toInt = i) (hi : i < n) (hv : f i = v) (hd : decode c.code pc = .ok (.laload, 1))
    (k : own_Fin p e below s C N Q (T.setTop (mkF m (pc + 1) Ls (v :: rest)))) : own_Fin p e below s C N Q (T.setTop (mkF m pc Ls (.int j :: .ref a :: rest))) := by
  obtain ⟨cl, A, r, q⟩ := F
  exact own_of (fun t kk => X.laload hx (j := j) (v := v) (by rw [eT]; exact A.1) (State.isArrayOf_alike hZ.alike A.2.1) A.2.2 (own_in hj (by rw [r]; exact hi)) (by rw [own_nc hj, q i hi, hv]) (g := mkF m pc Ls (.int j :: .ref a :: rest)) rfl rfl hd t kk) k
theorem own_caload (X : Stand p l e R s m args below meth c T locs cells slots) (hx : p.tables.exec = Jvm.exec) (hZ : Z.Warmed39 s.vm) (eT : T.heap = h) (F : own_Arf Z h a .char n f) {j : Int32} {i : Nat} (hj : j.toInt = i) (hi : i < n) (hv : f i = v) (hd : decode c.code pc = .ok (.caload, 1))
    (k : own_Fin p e below s C N Q (T.setTop (mkF m (pc + 1) Ls (v :: rest)))) : own_Fin p e below s C N Q (T.setTop (mkF m pc Ls (.int j :: .ref a :: rest))) := by
  obtain ⟨cl, A, r, q⟩ := F
  exact own_of (fun t kk => X.caload hx (j := j) (v := v) (by rw [eT]; exact A.1) (State.isArrayOf_alike hZ.alike A.2.1) A.2.2 (own_in hj (by rw [r]; exact hi)) (by rw [own_nc hj, q i hi, hv]) (g := mkF m pc Ls (.int j :: .ref a :: rest)) rfl rfl hd t kk) k
theorem own_baload (X : Stand p l e R s m args below meth c T locs cells slots) (hx : p.tables.exec = Jvm.exec) (hZ : Z.Warmed39 s.vm) (eT : T.heap = h) (F : own_Arf Z h a .byte n f) {j : Int32} {i : Nat} (hj : j.toInt = i) (hi : i < n) (hv : f i = v) (hd : decode c.code pc = .ok (.baload, 1))
    (k : own_Fin p e below s C N Q (T.setTop (mkF m (pc + 1) Ls (v :: rest)))) : own_Fin p e below s C N Q (T.setTop (mkF m pc Ls (.int j :: .ref a :: rest))) := by
  obtain ⟨cl, A, r, q⟩ := F
  exact own_of (fun t kk => X.baloadBytes hx (j := j) (v := v) (by rw [eT]; exact A.1) (State.isArrayOf_alike hZ.alike A.2.1) A.2.2 (own_in hj (by rw [r]; exact hi)) (by rw [own_nc hj, q i hi, hv]) (g := mkF m pc Ls (.int j :: .ref a :: rest)) rfl rfl hd t kk) k
theorem own_zaload (X : Stand p l e R s m args below meth c T locs cells slots) (hx : p.tables.exec = Jvm.exec) (hZ : Z.Warmed39 s.vm) (eT : T.heap = h) (F : own_Arf Z h a .boolean n f) {j : Int32} {i : Nat} (hj : j.toInt = i) (hi : i < n) (hv : f i = v) (hd : decode c.code pc = .ok (.baload, 1))
    (k : own_Fin p e below s C N Q (T.setTop (mkF m (pc + 1) Ls (v :: rest)))) : own_Fin p e below s C N Q (T.setTop (mkF m pc Ls (.int j :: .ref a :: rest))) := by
  obtain ⟨cl, A, r, q⟩ := F
  exact own_of (fun t kk => X.baloadBooleans hx (j := j) (v := v) (by rw [eT]; exact A.1) (State.isArrayOf_alike hZ.alike A.2.1) A.2.2 (own_in hj (by rw [r]; exact hi)) (by rw [own_nc hj, q i hi, hv]) (g := mkF m pc Ls (.int j :: .ref a :: rest)) rfl rfl hd t kk) k
theorem own_arraylength (X : Stand p l e R s m args below meth c T locs cells slots) (hx : p.tables.exec = Jvm.exec) (hZ : Z.Warmed39 s.vm) (eT : T.heap = h) (F : own_Arf Z h a ty n f) {z : Int32} (hz : z.toInt = n) (hd : decode c.code pc = .ok (.arraylength, 1))
    (k : own_Fin p e below s C N Q (T.setTop (mkF m (pc + 1) Ls (.int z :: rest)))) : own_Fin p e below s C N Q (T.setTop (mkF m pc Ls (.ref a :: rest))) := by
  obtain ⟨cl, A, r, q⟩ := F
  have e1 : cl.slots.size.toInt32 = z := by
    have hlt := Int32.toInt_lt z
    apply Int32.toInt_inj.mp
    rw [r, len_toInt (by omega), hz]
  refine own_of (fun t kk => X.arraylength hx (by rw [eT]; exact A.1) (State.isArrayOf_alike hZ.alike A.2.1) (g := mkF m pc Ls (.ref a :: rest)) rfl rfl hd t kk) ?_
  rw [e1]; exact k
variable {n0 : Nat}
theorem own_st {kd : Value} {i : Nat} {j : Int32} (hj : j.toInt = i) (F : own_Arf Z h a ty n f) (hN : Fr n0 locs) (ge : n0 ≤ a) {A : State} {fr : JFrame}
    (hst : ∃ T' h', Stand p l e R s m args below meth c T' (locs ++ [⟨a, j.toNatClampNeg⟩]) cells slots ∧ T'.heap = h' ∧ Wr h h' a j.toNatClampNeg kd ∧ ∀ target, Steps p.tables e below (T'.setTop fr) target → Steps p.tables e below A target)
    (k : ∀ T' h' locs', Stand p l e R s m args below meth c T' locs' cells slots → Fr n0 locs' → T'.heap = h' → Wr h h' a i kd → own_Arf Z h' a ty n (fun j => if j = i then kd else f j) → own_Fin p e below s C N Q (T'.setTop fr)) :
    own_Fin p e below s C N Q A := by
  obtain ⟨T', h', X', e', W, st⟩ := hst
  have hN' := Fr.snoc X' hN ge
  rw [own_nc hj] at W
  exact own_of st (k T' h' _ X' hN' e' W (F.set W))
theorem own_iastore (X : Stand p l e R s m args below meth c T locs cells slots) (hx : p.tables.exec = Jvm.exec) (hZ : Z.Warmed39 s.vm) (eT : T.heap = h) (F : own_Arf Z h a .int n f) (hN : Fr n0 locs) (ge : n0 ≤ a) {j x : Int32} {i : Nat} (hj : j.toInt = i) (hi : i < n) (hd : decode c.code pc = .ok (.iastore, 1))
    (k : ∀ T' h' locs', Stand p l e R s m args below meth c T' locs' cells slots → Fr n0 locs' → T'.heap = h' → Wr h h' a i (.int x) → own_Arf Z h' a .int n (fun j => if j = i then .int x else f j) → own_Fin p e below s C N Q (T'.setTop (mkF m (pc + 1) Ls rest))) :
    own_Fin p e below s C N Q (T.setTop (mkF m pc Ls (.int x :: .int j :: .ref a :: rest))) := by
  have F' := F
  obtain ⟨cl, A, r, q⟩ := F
  exact own_st hj F' hN ge (stI X hx hZ eT A (j := j) (own_in hj (by rw [r]; exact hi)) (g := mkF m pc Ls (.int x :: .int j :: .ref a :: rest)) rfl rfl hd) k
theorem own_lastore (X : Stand p l e R s m args below meth c T locs cells slots) (hx : p.tables.exec = Jvm.exec) (hZ : Z.Warmed39 s.vm) (eT : T.heap = h) (F : own_Arf Z h a .long n f) (hN : Fr n0 locs) (ge : n0 ≤ a) {j : Int32} {x : Int64} {i : Nat} (hj : j.toInt = i) (hi : i < n) (hd : decode c.code pc = .ok (.lastore, 1))
    (k : ∀ T' h' locs', Stand p l e R s m args below meth c T' locs' cells slots → Fr n0 locs' → T'.heap = h' → Wr h h' a i (.long x) → own_Arf Z h' a .long n (fun j => if j = i then .long x else f j) → own_Fin p e below s C N Q (T'.setTop (mkF m (pc + 1) Ls rest))) :
    own_Fin p e below s C N Q (T.setTop (mkF m pc Ls (.long x :: .int j :: .ref a :: rest))) := by
  have F' := F
  obtain ⟨cl, A, r, q⟩ := F
  exact own_st hj F' hN ge (stJ X hx hZ eT A (j := j) (own_in hj (by rw [r]; exact hi)) (g := mkF m pc Ls (.long x :: .int j :: .ref a :: rest)) rfl rfl hd) k
theorem own_bastore (X : Stand p l e R s m args below meth c T locs cells slots) (hx : p.tables.exec = Jvm.exec) (hZ : Z.Warmed39 s.vm) (eT : T.heap = h) (F : own_Arf Z h a .byte n f) (hN : Fr n0 locs) (ge : n0 ≤ a) {j x : Int32} {i : Nat} (hj : j.toInt = i) (hi : i < n) (hd : decode c.code pc = .ok (.bastore, 1))
    (k : ∀ T' h' locs', Stand p l e R s m args below meth c T' locs' cells slots → Fr n0 locs' → T'.heap = h' → Wr h h' a i (.int x.toInt8.toInt32) → own_Arf Z h' a .byte n (fun j => if j = i then .int x.toInt8.toInt32 else f j) → own_Fin p e below s C N Q (T'.setTop (mkF m (pc + 1) Ls rest))) :
    own_Fin p e below s C N Q (T.setTop (mkF m pc Ls (.int x :: .int j :: .ref a :: rest))) := by
  have F' := F
  obtain ⟨cl, A, r, q⟩ := F
  exact own_st hj F' hN ge (stB X hx hZ eT A (j := j) (own_in hj (by rw [r]; exact hi)) (g := mkF m pc Ls (.int x :: .int j :: .ref a :: rest)) rfl rfl hd) k
theorem own_castore (X : Stand p l e R s m args below meth c T locs cells slots) (hx : p.tables.exec = Jvm.exec) (hZ : Z.Warmed39 s.vm) (eT : T.heap = h) (F : own_Arf Z h a .char n f) (hN : Fr n0 locs) (ge : n0 ≤ a) {j x : Int32} {i : Nat} (hj : j.toInt = i) (hi : i < n) (hd : decode c.code pc = .ok (.castore, 1))
    (k : ∀ T' h' locs', Stand p l e R s m args below meth c T' locs' cells slots → Fr n0 locs' → T'.heap = h' → Wr h h' a i (.int x.toUInt32.toUInt16.toUInt32.toInt32) → own_Arf Z h' a .char n (fun j => if j = i then .int x.toUInt32.toUInt16.toUInt32.toInt32 else f j) → own_Fin p e below s C N Q (T'.setTop (mkF m (pc + 1) Ls rest))) :
    own_Fin p e below s C N Q (T.setTop (mkF m pc Ls (.int x :: .int j :: .ref a :: rest))) := by
  have F' := F
  obtain ⟨cl, A, r, q⟩ := F
  exact own_st hj F' hN ge (stC X hx hZ eT A (j := j) (own_in hj (by rw [r]; exact hi)) (g := mkF m pc Ls (.int x :: .int j :: .ref a :: rest)) rfl rfl hd) k
theorem own_zastore (X : Stand p l e R s m args below meth c T locs cells slots) (hx : p.tables.exec = Jvm.exec) (hZ : Z.Warmed39 s.vm) (eT : T.heap = h) (F : own_Arf Z h a .boolean n f) (hN : Fr n0 locs) (ge : n0 ≤ a) {j x : Int32} {i : Nat} (hj : j.toInt = i) (hi : i < n) (hd : decode c.code pc = .ok (.bastore, 1))
    (k : ∀ T' h' locs', Stand p l e R s m args below meth c T' locs' cells slots → Fr n0 locs' → T'.heap = h' → Wr h h' a i (.int (x &&& 1)) → own_Arf Z h' a .boolean n (fun j => if j = i then .int (x &&& 1) else f j) → own_Fin p e below s C N Q (T'.setTop (mkF m (pc + 1) Ls rest))) :
    own_Fin p e below s C N Q (T.setTop (mkF m pc Ls (.int x :: .int j :: .ref a :: rest))) := by
  have F' := F
  obtain ⟨cl, A, r, q⟩ := F
  exact own_st hj F' hN ge (stZ X hx hZ eT A (j := j) (own_in hj (by rw [r]; exact hi)) (g := mkF m pc Ls (.int x :: .int j :: .ref a :: rest)) rfl rfl hd) k
theorem own_newP (X : Stand p l e R s m args below meth c T locs cells slots) (hx : p.tables.exec = Jvm.exec) (hZ : Z.Warmed39 s.vm) {aty : ArrayType} (w : (Cond.arrayClass (newarray.typeOf aty)).before a0 Z = true) (eT : T.heap = h) (hd : decode c.code pc = .ok (.newarray aty, 2)) {z : Int32} (hz : z.toInt = n) {cap : Nat} (hcap : n ≤ cap) (hb : cap * 8 ≤ 536870912) (hc : cells + 1 ≤ R.cells) (hl : slots + cap ≤ R.slots)
    (k : ∀ T' h' b, Stand p l e R s m args below meth c T' locs (cells + 1) (slots + cap) → T'.heap = h' → Ext h h' → b = h.size → own_Arf Z h' b (newarray.typeOf aty) n (fun _ => defaultValue (newarray.typeOf aty)) → own_Fin p e below s C N Q (T'.setTop (mkF m (pc + 2) Ls (.ref b :: rest)))) :
    own_Fin p e below s C N Q (T.setTop (mkF m pc Ls (.int z :: rest))) := by
  obtain ⟨T', h', cA, X', e', E, A, st⟩ := newP X hx hZ w eT (g := mkF m pc Ls (.int z :: rest)) rfl hd rfl (by rw [Int32.lt_iff_toInt_lt, hz]; show ¬ (n : Int) < 0; omega) (cap := cap) (by rw [own_nc hz]; exact hcap) hb hc hl
  exact own_of st (k T' h' _ X' e' E rfl (own_Arf.new A hz))
end Ar
/-! objects -/
section Ob
variable {n0 : Nat} {v : Value}
theorem own_getF (X : Stand p l e R s m args below meth c T locs cells slots) (hx : p.tables.exec = Jvm.exec) (hZ : Z.Warmed39 s.vm) {own O n d : String} {index : Nat} (hown : s.vm.findClass own = some m.cls) (w : (Cond.fieldLink own index O n d).before a0 Z = true) (eT : T.heap = h) (F : Fld Z h a O n d v) (hd : decode c.code pc = .ok (.getfield index, 3))
    (k : ∀ T', Stand p l e R s m args below meth c T' locs cells slots → T'.heap = h → own_Fin p e below s C N Q (T'.setTop (mkF m (pc + 3) Ls (v :: rest)))) :
    own_Fin p e below s C N Q (T.setTop (mkF m pc Ls (.ref a :: rest))) := by
  obtain ⟨T', X', e', st⟩ := getF X hx hZ hown (host := "") (Or.inl w) Via.refl eT F (g := mkF m pc Ls (.ref a :: rest)) rfl rfl hd
  exact own_of st (k T' X' e')
theorem own_putF (X : Stand p l e R s m args below meth c T locs cells slots) (hx : p.tables.exec = Jvm.exec) (hZ : Z.Warmed39 s.vm) {own O n d K : String} {index kk : Nat} {ty : FieldType} {old : Value} (hown : s.vm.findClass own = some m.cls) (w : (Cond.fieldLink own index O n d).before a0 Z = true) (eT : T.heap = h) (F : Fld Z h a O n d old) (E : Exa Z h a K)
    (L : (Cond.lays K O n d).before a0 Z = true ∨ ((Cond.laysFinal K O n d).before a0 Z = true ∧ own = O ∧ meth.name = "<init>")) (wi : (Cond.instantiable K kk).before a0 Z = true) (hty : parseFieldDescriptor d = some ty) (hn : narrow ty v = v) (hf : fits ty v = true) (hN : Fr n0 locs) (ge : n0 ≤ a) (hd : decode c.code pc = .ok (.putfield index, 3))
    (k : ∀ T' h' locs', Stand p l e R s m args below meth c T' locs' cells slots → Fr n0 locs' → T'.heap = h' → Wr h h' a (slotOf Z O n d) v → own_Fin p e below s C N Q (T'.setTop (mkF m (pc + 3) Ls rest))) :
    own_Fin p e below s C N Q (T.setTop (mkF m pc Ls (v :: .ref a :: rest))) := by
  obtain ⟨T', h', X', e', W, st⟩ := putF X hx hZ hown (host := "") (Or.inl w) Via.refl eT F E L wi hty hn hf (g := mkF m pc Ls (v :: .ref a :: rest)) rfl rfl hd
  exact own_of st (k T' h' _ X' (Fr.snoc X' hN ge) e' W)
theorem own_newO (X : Stand p l e R s m args below meth c T locs cells slots) (hx : p.tables.exec = Jvm.exec) (hZ : Z.Warmed39 s.vm) {own K : String} {index n : Nat} (hown : s.vm.findClass own = some m.cls) (w : (Cond.classLink own index K).before a0 Z = true) (wi : (Cond.instantiable K n).before a0 Z = true) (wz : (Cond.initialized K).before a0 Z = true) (eT : T.heap = h) (hd : decode c.code pc = .ok (.new index, 3)) (hc : cells + 1 ≤ R.cells) (hl : slots + n ≤ R.slots)
    (k : ∀ T' h' b, Stand p l e R s m args below meth c T' locs (cells + 1) (slots + n) → T'.heap = h' → Ext h h' → b = h.size → Exa Z h' b K → (∀ {O nm d : String} {ty : FieldType}, Laid Z a0 K O nm d → parseFieldDescriptor d = some ty → Fld Z h' b O nm d (defaultValue ty)) → own_Fin p e below s C N Q (T'.setTop (mkF m (pc + 3) Ls (.ref b :: rest)))) :
    own_Fin p e below s C N Q (T.setTop (mkF m pc Ls rest)) := by
  obtain ⟨T', h', X', e', E, A, D, -, st⟩ := newO X hx hZ hown w wi wz eT (g := mkF m pc Ls rest) rfl hd hc hl
  exact own_of st (k T' h' _ X' e' E rfl A D)
theorem own_initO (X : Stand p l e R s m args below meth c T locs cells slots) (hx : p.tables.exec = Jvm.exec) (hZ : Z.Warmed39 s.vm) {own : String} {idx : Nat} (hown : s.vm.findClass own = some m.cls) (w1 : (Cond.methodLink own idx Lib.objectInit).before a0 Z = true) (w2 : (Cond.instanceMethod Lib.objectInit).before a0 Z = true) (w3 : (Cond.code Lib.objectInit ⟨#[0xb1]⟩ 1 none).before a0 Z = true) (eT : T.heap = h) (hsize : Ls.size = c.maxLocals) (hd : decode c.code pc = .ok (.invokespecial idx, 3)) (hf : 1 ≤ R.frames) {W : Nat} (hW : (rest.map fun v => v.category).sum ≤ W) (hl : W + 12 ≤ R.locals)
    (k : ∀ T', Stand p l e R s m args below meth c T' locs cells slots → T'.heap = h → own_Fin p e below s C N Q (T'.setTop (mkF m (pc + 3) Ls rest))) :
    own_Fin p e below s C N Q (T.setTop (mkF m pc Ls (.ref a :: rest))) := by
  obtain ⟨T', X', e', st⟩ := initO X hx hZ hown w1 w2 w3 eT (g := mkF m pc Ls (.ref a :: rest)) rfl hsize rfl hd hf (W := W) (by show 2 * 0 + _ ≤ _; simpa using hW) hl
  exact own_of st (k T' X' e')
theorem own_wide (X : Stand p l e R s m args below meth c T locs cells slots) {cells' slots' : Nat} (h1 : cells ≤ cells') (h2 : slots ≤ slots') : Stand p l e R s m args below meth c T locs cells' slots' := { X with same := X.same.mono h1 h2 }
end Ob
theorem own_lremM {g : JFrame} {target : State} (X : Stand p l e R s m args below meth c T locs cells slots) (hx : p.tables.exec = Jvm.exec) (hg : g.method = m) {x y : Int64} (hd : decode c.code g.pc = .ok (.lrem, 1)) (hs : g.stack = .long y :: .long x :: rest) (hy : y ≠ 0)
    (hr : Steps p.tables e below (T.setTop { g with pc := g.pc + 1, stack := .long (x % y) :: rest }) target) : Steps p.tables e below (T.setTop g) target := by
  refine XS.lrem X.here hx hg hd hs hy ?_
  rw [lrem_mod]; exact hr
end OwnKit
def own_iushr (x y : Int32) : Int32 := (x.toUInt32 >>> (y &&& 31).toUInt32).toInt32
def own_ishl (x y : Int32) : Int32 := x <<< (y &&& 31)
def own_ishr (x y : Int32) : Int32 := x >>> (y &&& 31)
def own_lushr (x : Int64) (y : Int32) : Int64 := (x.toUInt64 >>> (y &&& 0x3f).toInt64.toUInt64).toInt64
def own_lshl (x : Int64) (y : Int32) : Int64 := x <<< (y &&& 0x3f).toInt64
def own_lshr (x : Int64) (y : Int32) : Int64 := x >>> (y &&& 0x3f).toInt64
def own_i2b (x : Int32) : Int32 := x.toInt8.toInt32
def own_i2c (x : Int32) : Int32 := x.toUInt32.toUInt16.toUInt32.toInt32
def own_i2s (x : Int32) : Int32 := x.toInt16.toInt32
end Jvm.RoadKit
namespace Jvm.Pilot.@@N@@
open Jvm Jvm.ClassFile Sem Op Lib Jvm.Free Jvm.Stand Jvm.LawKit Jvm.RoadKit Bundle Jvm.Pilot.@@N@@.Jvm.D
theorem d1_0 : decode prog_200_method_11_code 0 = .ok (.iload_n 1, 1) := by decide +kernel
theorem d1_1 : decode prog_200_method_11_code 1 = .ok (.istore 4, 2) := by decide +kernel
theorem d1_3 : decode prog_200_method_11_code 3 = .ok (.lload_n 2, 1) := by decide +kernel
theorem d1_4 : decode prog_200_method_11_code 4 = .ok (.lstore 5, 2) := by decide +kernel
theorem d1_6 : decode prog_200_method_11_code 6 = .ok (.lload 5, 2) := by decide +kernel
theorem d1_8 : decode prog_200_method_11_code 8 = .ok (.ldc2_w 70, 3) := by decide +kernel
theorem d1_11 : decode prog_200_method_11_code 11 = .ok (.land, 1) := by decide +kernel
theorem d1_12 : decode prog_200_method_11_code 12 = .ok (.lconst 0, 1) := by decide +kernel
theorem d1_13 : decode prog_200_method_11_code 13 = .ok (.lcmp, 1) := by decide +kernel
theorem d1_14 : decode prog_200_method_11_code 14 = .ok (.ifCond .eq 28, 3) := by decide +kernel
theorem d1_17 : decode prog_200_method_11_code 17 = .ok (.aload_n 0, 1) := by decide +kernel
theorem d1_18 : decode prog_200_method_11_code 18 = .ok (.iload 4, 2) := by decide +kernel
theorem d1_20 : decode prog_200_method_11_code 20 = .ok (.iinc 4 1, 3) := by decide +kernel
theorem d1_23 : decode prog_200_method_11_code 23 = .ok (.lload 5, 2) := by decide +kernel
theorem d1_25 : decode prog_200_method_11_code 25 = .ok (.ldc2_w 72, 3) := by decide +kernel
theorem d1_28 : decode prog_200_method_11_code 28 = .ok (.lor, 1) := by decide +kernel
theorem d1_29 : decode prog_200_method_11_code 29 = .ok (.l2i, 1) := by decide +kernel
theorem d1_30 : decode prog_200_method_11_code 30 = .ok (.i2b, 1) := by decide +kernel
theorem d1_31 : decode prog_200_method_11_code 31 = .ok (.bastore, 1) := by decide +kernel
theorem d1_32 : decode prog_200_method_11_code 32 = .ok (.lload 5, 2) := by decide +kernel
theorem d1_34 : decode prog_200_method_11_code 34 = .ok (.bipush 7, 2) := by decide +kernel
theorem d1_36 : decode prog_200_method_11_code 36 = .ok (.lushr, 1) := by decide +kernel
theorem d1_37 : decode prog_200_method_11_code 37 = .ok (.lstore 5, 2) := by decide +kernel
theorem d1_39 : decode prog_200_method_11_code 39 = .ok (.goto (-33), 3) := by decide +kernel
theorem d1_42 : decode prog_200_method_11_code 42 = .ok (.aload_n 0, 1) := by decide +kernel
theorem d1_43 : decode prog_200_method_11_code 43 = .ok (.iload 4, 2) := by decide +kernel
theorem d1_45 : decode prog_200_method_11_code 45 = .ok (.iinc 4 1, 3) := by decide +kernel
theorem d1_48 : decode prog_200_method_11_code 48 = .ok (.lload 5, 2) := by decide +kernel
theorem d1_50 : decode prog_200_method_11_code 50 = .ok (.l2i, 1) := by decide +kernel
theorem d1_51 : decode prog_200_method_11_code 51 = .ok (.i2b, 1) := by decide +kernel
theorem d1_52 : decode prog_200_method_11_code 52 = .ok (.bastore, 1) := by decide +kernel
theorem d1_53 : decode prog_200_method_11_code 53 = .ok (.iload 4, 2) := by decide +kernel
theorem d1_55 : decode prog_200_method_11_code 55 = .ok (.ireturn, 1) := by decide +kernel
theorem d2_0 : decode method_4_code 0 = .ok (.iconst 1, 1) := by decide +kernel
theorem d2_1 : decode method_4_code 1 = .ok (.lload_n 0, 1) := by decide +kernel
theorem d2_2 : decode method_4_code 2 = .ok (.bipush 7, 2) := by decide +kernel
theorem d2_4 : decode method_4_code 4 = .ok (.lushr, 1) := by decide +kernel
theorem d2_5 : decode method_4_code 5 = .ok (.invokestatic 23, 3) := by decide +kernel
theorem d2_8 : decode method_4_code 8 = .ok (.iadd, 1) := by decide +kernel
theorem d2_9 : decode method_4_code 9 = .ok (.lload_n 0, 1) := by decide +kernel
theorem d2_10 : decode method_4_code 10 = .ok (.bipush 14, 2) := by decide +kernel
theorem d2_12 : decode method_4_code 12 = .ok (.lushr, 1) := by decide +kernel
theorem d2_13 : decode method_4_code 13 = .ok (.invokestatic 23, 3) := by decide +kernel
theorem d2_16 : decode method_4_code 16 = .ok (.iadd, 1) := by decide +kernel
theorem d2_17 : decode method_4_code 17 = .ok (.lload_n 0, 1) := by decide +kernel
theorem d2_18 : decode method_4_code 18 = .ok (.bipush 21, 2) := by decide +kernel
theorem d2_20 : decode method_4_code 20 = .ok (.lushr, 1) := by decide +kernel
theorem d2_21 : decode method_4_code 21 = .ok (.invokestatic 23, 3) := by decide +kernel
theorem d2_24 : decode method_4_code 24 = .ok (.iadd, 1) := by decide +kernel
theorem d2_25 : decode method_4_code 25 = .ok (.lload_n 0, 1) := by decide +kernel
theorem d2_26 : decode method_4_code 26 = .ok (.bipush 28, 2) := by decide +kernel
theorem d2_28 : decode method_4_code 28 = .ok (.lushr, 1) := by decide +kernel
theorem d2_29 : decode method_4_code 29 = .ok (.invokestatic 23, 3) := by decide +kernel
theorem d2_32 : decode method_4_code 32 = .ok (.iadd, 1) := by decide +kernel
theorem d2_33 : decode method_4_code 33 = .ok (.lload_n 0, 1) := by decide +kernel
theorem d2_34 : decode method_4_code 34 = .ok (.bipush 35, 2) := by decide +kernel
theorem d2_36 : decode method_4_code 36 = .ok (.lushr, 1) := by decide +kernel
theorem d2_37 : decode method_4_code 37 = .ok (.invokestatic 23, 3) := by decide +kernel
theorem d2_40 : decode method_4_code 40 = .ok (.iadd, 1) := by decide +kernel
theorem d2_41 : decode method_4_code 41 = .ok (.lload_n 0, 1) := by decide +kernel
theorem d2_42 : decode method_4_code 42 = .ok (.bipush 42, 2) := by decide +kernel
theorem d2_44 : decode method_4_code 44 = .ok (.lushr, 1) := by decide +kernel
theorem d2_45 : decode method_4_code 45 = .ok (.invokestatic 23, 3) := by decide +kernel
theorem d2_48 : decode method_4_code 48 = .ok (.iadd, 1) := by decide +kernel
theorem d2_49 : decode method_4_code 49 = .ok (.lload_n 0, 1) := by decide +kernel
theorem d2_50 : decode method_4_code 50 = .ok (.bipush 49, 2) := by decide +kernel
theorem d2_52 : decode method_4_code 52 = .ok (.lushr, 1) := by decide +kernel
theorem d2_53 : decode method_4_code 53 = .ok (.invokestatic 23, 3) := by decide +kernel
theorem d2_56 : decode method_4_code 56 = .ok (.iadd, 1) := by decide +kernel
theorem d2_57 : decode method_4_code 57 = .ok (.lload_n 0, 1) := by decide +kernel
theorem d2_58 : decode method_4_code 58 = .ok (.bipush 56, 2) := by decide +kernel
theorem d2_60 : decode method_4_code 60 = .ok (.lushr, 1) := by decide +kernel
theorem d2_61 : decode method_4_code 61 = .ok (.invokestatic 23, 3) := by decide +kernel
theorem d2_64 : decode method_4_code 64 = .ok (.iadd, 1) := by decide +kernel
theorem d2_65 : decode method_4_code 65 = .ok (.lload_n 0, 1) := by decide +kernel
theorem d2_66 : decode method_4_code 66 = .ok (.bipush 63, 2) := by decide +kernel
theorem d2_68 : decode method_4_code 68 = .ok (.lushr, 1) := by decide +kernel
theorem d2_69 : decode method_4_code 69 = .ok (.invokestatic 23, 3) := by decide +kernel
theorem d2_72 : decode method_4_code 72 = .ok (.iadd, 1) := by decide +kernel
theorem d2_73 : decode method_4_code 73 = .ok (.ireturn, 1) := by decide +kernel
theorem d3_0 : decode method_3_code 0 = .ok (.lload_n 0, 1) := by decide +kernel
theorem d3_1 : decode method_3_code 1 = .ok (.lconst 0, 1) := by decide +kernel
theorem d3_2 : decode method_3_code 2 = .ok (.lcmp, 1) := by decide +kernel
theorem d3_3 : decode method_3_code 3 = .ok (.ifCond .eq 7, 3) := by decide +kernel
theorem d3_6 : decode method_3_code 6 = .ok (.iconst 1, 1) := by decide +kernel
theorem d3_7 : decode method_3_code 7 = .ok (.goto 4, 3) := by decide +kernel
theorem d3_10 : decode method_3_code 10 = .ok (.iconst 0, 1) := by decide +kernel
theorem d3_11 : decode method_3_code 11 = .ok (.ireturn, 1) := by decide +kernel
theorem d4_0 : decode method_5_code 0 = .ok (.iload_n 1, 1) := by decide +kernel
theorem d4_1 : decode method_5_code 1 = .ok (.iload_n 2, 1) := by decide +kernel
theorem d4_2 : decode method_5_code 2 = .ok (.if_icmp .lt 11, 3) := by decide +kernel
theorem d4_5 : decode method_5_code 5 = .ok (.iload_n 1, 1) := by decide +kernel
theorem d4_6 : decode method_5_code 6 = .ok (.iload_n 2, 1) := by decide +kernel
theorem d4_7 : decode method_5_code 7 = .ok (.iload 5, 2) := by decide +kernel
theorem d4_9 : decode method_5_code 9 = .ok (.iadd, 1) := by decide +kernel
theorem d4_10 : decode method_5_code 10 = .ok (.if_icmp .lt 10, 3) := by decide +kernel
theorem d4_13 : decode method_5_code 13 = .ok (.iload 6, 2) := by decide +kernel
theorem d4_15 : decode method_5_code 15 = .ok (.istore 7, 2) := by decide +kernel
theorem d4_17 : decode method_5_code 17 = .ok (.goto 45, 3) := by decide +kernel
theorem d4_20 : decode method_5_code 20 = .ok (.iload_n 1, 1) := by decide +kernel
theorem d4_21 : decode method_5_code 21 = .ok (.iload_n 2, 1) := by decide +kernel
theorem d4_22 : decode method_5_code 22 = .ok (.isub, 1) := by decide +kernel
theorem d4_23 : decode method_5_code 23 = .ok (.istore 8, 2) := by decide +kernel
theorem d4_25 : decode method_5_code 25 = .ok (.lload_n 3, 1) := by decide +kernel
theorem d4_26 : decode method_5_code 26 = .ok (.bipush 7, 2) := by decide +kernel
theorem d4_28 : decode method_5_code 28 = .ok (.iload 8, 2) := by decide +kernel
theorem d4_30 : decode method_5_code 30 = .ok (.imul, 1) := by decide +kernel
theorem d4_31 : decode method_5_code 31 = .ok (.lushr, 1) := by decide +kernel
theorem d4_32 : decode method_5_code 32 = .ok (.lstore 9, 2) := by decide +kernel
theorem d4_34 : decode method_5_code 34 = .ok (.iload 8, 2) := by decide +kernel
theorem d4_36 : decode method_5_code 36 = .ok (.iload 5, 2) := by decide +kernel
theorem d4_38 : decode method_5_code 38 = .ok (.iconst 1, 1) := by decide +kernel
theorem d4_39 : decode method_5_code 39 = .ok (.isub, 1) := by decide +kernel
theorem d4_40 : decode method_5_code 40 = .ok (.if_icmp .ge 16, 3) := by decide +kernel
theorem d4_43 : decode method_5_code 43 = .ok (.lload 9, 2) := by decide +kernel
theorem d4_45 : decode method_5_code 45 = .ok (.ldc2_w 26, 3) := by decide +kernel
theorem d4_48 : decode method_5_code 48 = .ok (.lor, 1) := by decide +kernel
theorem d4_49 : decode method_5_code 49 = .ok (.l2i, 1) := by decide +kernel
theorem d4_50 : decode method_5_code 50 = .ok (.i2b, 1) := by decide +kernel
theorem d4_51 : decode method_5_code 51 = .ok (.istore 7, 2) := by decide +kernel
theorem d4_53 : decode method_5_code 53 = .ok (.goto 9, 3) := by decide +kernel
theorem d4_56 : decode method_5_code 56 = .ok (.lload 9, 2) := by decide +kernel
theorem d4_58 : decode method_5_code 58 = .ok (.l2i, 1) := by decide +kernel
theorem d4_59 : decode method_5_code 59 = .ok (.i2b, 1) := by decide +kernel
theorem d4_60 : decode method_5_code 60 = .ok (.istore 7, 2) := by decide +kernel
theorem d4_62 : decode method_5_code 62 = .ok (.aload_n 0, 1) := by decide +kernel
theorem d4_63 : decode method_5_code 63 = .ok (.iload_n 1, 1) := by decide +kernel
theorem d4_64 : decode method_5_code 64 = .ok (.baload, 1) := by decide +kernel
theorem d4_65 : decode method_5_code 65 = .ok (.iload 7, 2) := by decide +kernel
theorem d4_67 : decode method_5_code 67 = .ok (.if_icmp .ne 7, 3) := by decide +kernel
theorem d4_70 : decode method_5_code 70 = .ok (.iconst 1, 1) := by decide +kernel
theorem d4_71 : decode method_5_code 71 = .ok (.goto 4, 3) := by decide +kernel
theorem d4_74 : decode method_5_code 74 = .ok (.iconst 0, 1) := by decide +kernel
theorem d4_75 : decode method_5_code 75 = .ok (.ireturn, 1) := by decide +kernel
theorem pd_0 : parseMethodDescriptor "(J)I" = some ⟨[.long], some .int⟩ := by decide +kernel
theorem pd_1 : parseMethodDescriptor "(JIII)Z" = some ⟨[.long, .int, .int, .int], some .boolean⟩ := by decide +kernel
theorem pd_2 : parseMethodDescriptor "([BIIJIB)Z" = some ⟨[(.array .byte), .int, .int, .long, .int, .byte], some .boolean⟩ := by decide +kernel
theorem pd_3 : parseMethodDescriptor "([BIJ)I" = some ⟨[(.array .byte), .int, .long], some .int⟩ := by decide +kernel
theorem pn_0 : plainFor x = true := plainFor_of_name (by first | (simp [plainName, overriddenIn]; done) | decide +kernel)
theorem ef_0 (m : MethodId) (x0 : Int64) (x1 : Int32) (x2 : Int32) (x3 : Int32) : entryFrame m #[(.long x0), (.int x1), (.int x2), (.int x3)] maxLocals = mkF m 0 #[.val (.long x0), .second, .val (.int x1), .val (.int x2), .val (.int x3), .unset, .unset, .unset, .unset, .unset, .unset, .unset] [] := by first | (simp [entryFrame, mkF, argsToLocals, Value.category, maxLocals]; done) | rfl
theorem pn_1 : plainFor (⟨"com/example/dosefold/dosefold/sort/Encoder", "putBits", "([BIJ)I"⟩ : MethodName) = true := plainFor_of_name (by first | (simp [plainName, overriddenIn]; done) | decide +kernel)
theorem ef_1 (m : MethodId) (x0 : Addr) (x1 : Int32) (x2 : Int64) : entryFrame m #[(.ref x0), (.int x1), (.long x2)] 7 = mkF m 0 #[.val (.ref x0), .val (.int x1), .val (.long x2), .second, .unset, .unset, .unset] [] := by first | (simp [entryFrame, mkF, argsToLocals, Value.category]; done) | rfl
theorem pn_2 : plainFor (⟨"com/example/dosefold/dosefold/sort/EncoderPutBitsPinLaw", "size", "(J)I"⟩ : MethodName) = true := plainFor_of_name (by first | (simp [plainName, overriddenIn]; done) | decide +kernel)
theorem ef_2 (m : MethodId) (x0 : Int64) : entryFrame m #[(.long x0)] 2 = mkF m 0 #[.val (.long x0), .second] [] := by first | (simp [entryFrame, mkF, argsToLocals, Value.category]; done) | rfl
theorem pn_3 : plainFor (⟨"com/example/dosefold/dosefold/sort/EncoderPutBitsPinLaw", "nz", "(J)I"⟩ : MethodName) = true := plainFor_of_name (by first | (simp [plainName, overriddenIn]; done) | decide +kernel)
theorem ef_3 (m : MethodId) (x0 : Int64) : entryFrame m #[(.long x0)] 2 = mkF m 0 #[.val (.long x0), .second] [] := by first | (simp [entryFrame, mkF, argsToLocals, Value.category]; done) | rfl
theorem pn_4 : plainFor (⟨"com/example/dosefold/dosefold/sort/EncoderPutBitsPinLaw", "ok", "([BIIJIB)Z"⟩ : MethodName) = true := plainFor_of_name (by first | (simp [plainName, overriddenIn]; done) | decide +kernel)
theorem ef_4 (m : MethodId) (x0 : Addr) (x1 : Int32) (x2 : Int32) (x3 : Int64) (x4 : Int32) (x5 : Int32) : entryFrame m #[(.ref x0), (.int x1), (.int x2), (.long x3), (.int x4), (.int x5)] 11 = mkF m 0 #[.val (.ref x0), .val (.int x1), .val (.int x2), .val (.long x3), .second, .val (.int x4), .val (.int x5), .unset, .unset, .unset, .unset] [] := by first | (simp [entryFrame, mkF, argsToLocals, Value.category]; done) | rfl
theorem own_all8 {P : Int8 → Prop} (h : ∀ n : Fin 256, P (.ofBitVec (.ofFin n))) (b : Int8) : P b := by
  have := h b.toBitVec.toFin
  simpa using this
theorem own_fin (x : Int32) (K : Nat) (h0 : 0 ≤ x.toInt) (h1 : x.toInt < K) : ∃ n : Nat, n < K ∧ x = Int32.ofInt (n : Int) :=
  ⟨x.toInt.toNat, by omega, by rw [Int.toNat_of_nonneg h0, Int32.ofInt_toInt]⟩
theorem own_lushr_nat (x : Int64) (q : Int32) (k : Nat) (hk : q.toBitVec.toNat % 64 = k) : (own_lushr x q).toBitVec.toNat = x.toBitVec.toNat / 2 ^ k := by
  show (x.toBitVec >>> ((q &&& 0x3f).toInt64.toBitVec % 64)).toNat = _
  rw [BitVec.ushiftRight_eq', BitVec.toNat_ushiftRight, Nat.shiftRight_eq_div_pow, BitVec.toNat_umod, (sm64 q k hk).1, BitVec.toNat_ofNat]
  congr 2
  have := (sm64 q k hk).2
  show k % 2 ^ 64 % 64 = k
  omega
theorem own_l0 (x : Int64) : x = 0 ↔ x.toBitVec.toNat = 0 := ⟨fun h => by subst h; rfl, fun h => Int64.toBitVec_inj.mp (BitVec.eq_of_toNat_eq h)⟩
theorem own_shsh (x : Int64) (a b c : Int32) (i j : Nat) (ha : a.toBitVec.toNat % 64 = i) (hb : b.toBitVec.toNat % 64 = j) (hc : c.toBitVec.toNat % 64 = i + j) : own_lushr (own_lushr x a) b = own_lushr x c := by
  apply Int64.toBitVec_inj.mp
  apply BitVec.eq_of_toNat_eq
  rw [own_lushr_nat _ b j hb, own_lushr_nat x a i ha, own_lushr_nat x c _ hc, Nat.div_div_eq_div_mul, Nat.pow_add]
theorem own_shz (x : Int64) (a b : Int32) (i j : Nat) (ha : a.toBitVec.toNat % 64 = i) (hb : b.toBitVec.toNat % 64 = j) (h : 64 ≤ i + j) : own_lushr (own_lushr x a) b = 0 := by
  rw [own_l0, own_lushr_nat _ b j hb, own_lushr_nat x a i ha, Nat.div_div_eq_div_mul, ← Nat.pow_add]
  exact Nat.div_eq_of_lt (Nat.lt_of_lt_of_le x.toBitVec.isLt (Nat.pow_le_pow_right (by decide) h))
theorem own_true {P : Prop} [Decidable P] (h : P) : ((if P then (1 : Int32) else (0 : Int32)) &&& 1) = 1 := by rw [if_pos h]; rfl
/-! Java's >>> on longs by a natural number -/
def own_sr (v : Int64) (k : Nat) : Int64 := .ofBitVec (v.toBitVec >>> k)
theorem own_sr_nat (v : Int64) (k : Nat) : (own_sr v k).toBitVec.toNat = v.toBitVec.toNat / 2 ^ k := by
  show (v.toBitVec >>> k).toNat = _
  rw [BitVec.toNat_ushiftRight, Nat.shiftRight_eq_div_pow]
theorem own_inj {a b : Int64} (h : a.toBitVec.toNat = b.toBitVec.toNat) : a = b := Int64.toBitVec_inj.mp (BitVec.eq_of_toNat_eq h)
theorem own_lushr_sr (v : Int64) (q : Int32) (k : Nat) (hk : q.toBitVec.toNat % 64 = k) : own_lushr v q = own_sr v k := own_inj (by rw [own_lushr_nat v q k hk, own_sr_nat])
theorem own_sr_sr (v : Int64) (a b : Nat) : own_sr (own_sr v a) b = own_sr v (a + b) := own_inj (by rw [own_sr_nat, own_sr_nat, own_sr_nat, Nat.div_div_eq_div_mul, Nat.pow_add])
theorem own_turn (v : Int64) (i : Nat) : own_lushr (own_sr v (7 * i)) (7 : Int32) = own_sr v (7 * (i + 1)) := by
  rw [own_lushr_sr _ 7 7 (by decide), own_sr_sr]; congr 1
theorem own_i2b_i2b (x : Int32) : own_i2b (own_i2b x) = own_i2b x := by
  have h1 := (c_i2b (own_i2b x))
  have h2 := (c_i2b x)
  change ((own_i2b (own_i2b x)).toInt - (own_i2b x).toInt) % 256 = 0 ∧ -128 ≤ (own_i2b (own_i2b x)).toInt ∧ (own_i2b (own_i2b x)).toInt < 128 at h1
  change ((own_i2b x).toInt - x.toInt) % 256 = 0 ∧ -128 ≤ (own_i2b x).toInt ∧ (own_i2b x).toInt < 128 at h2
  exact Int32.toInt_inj.mp (by omega)
def own_f3 (x0 : Int64) : Int32 := (if x0 = (0 : Int64) then (0 : Int32) else (1 : Int32))
set_option maxRecDepth 65536 in
set_option maxHeartbeats 40000000 in
theorem met3 (l : Launch) (Z : State) (a0 : Array Value) (hw : ∀ d ∈ tables_1, d.before a0 Z = true) (x0 : Int64) (h0 : Heap) :
    own_Met l Z (⟨"com/example/dosefold/dosefold/sort/EncoderPutBitsPinLaw", "nz", "(J)I"⟩ : MethodName) method_3_code 2 (some .int) { frames := 0, cells := 0, slots := 0, locals := 0 } #[(.long x0)] h0 (own_Pure (.int (own_f3 x0)) h0) := by
  refine own_met pn_3 ?_
  intro p e s m below meth c T0 X0 hx hby hml hown hZ e0 hret hlk hnm
  rw [ef_3 m x0]
  show own_Fin _ _ _ _ _ _ _ (T0.setTop (mkF m 0 #[.val (.long x0), .second] []))
  refine own_of (fun _ kk => XS.lloadN X0.here hx rfl (hb hby d3_0) rfl kk) ?_
  show own_Fin _ _ _ _ _ _ _ (T0.setTop (mkF m 1 #[.val (.long x0), .second] [(.long x0)]))
  refine own_of (fun _ kk => XS.lconst X0.here hx rfl (hb hby d3_1) kk) ?_
  show own_Fin _ _ _ _ _ _ _ (T0.setTop (mkF m 2 #[.val (.long x0), .second] [(.long (0 : Int64)), (.long x0)]))
  refine own_of (fun _ kk => XS.lcmp X0.here hx rfl (hb hby d3_2) rfl kk) ?_
  show own_Fin _ _ _ _ _ _ _ (T0.setTop (mkF m 3 #[.val (.long x0), .second] [(.int (lcmpW x0 (0 : Int64)))]))
  suffices k1 : own_Fin _ _ _ _ _ _ _ (T0.setTop (mkF m 11 #[.val (.long x0), .second] [(.int (if x0 = (0 : Int64) then (0 : Int32) else (1 : Int32)))])) by
    by_cases c3 : x0 = (0 : Int64)
    · refine own_of (fun _ kk => XS.ifYes X0.here hx rfl (pc0 := 3) (pc' := 10) rfl (hb hby d3_3) rfl ((if0 _ _).trans (teq ((lw_eq _ _).mpr c3)).1) (by decide) (by decide) kk) ?_
      show own_Fin _ _ _ _ _ _ _ (T0.setTop (mkF m 10 #[.val (.long x0), .second] []))
      refine own_of (fun _ kk => XS.iconst X0.here hx rfl (hb hby d3_10) kk) ?_
      show own_Fin _ _ _ _ _ _ _ (T0.setTop (mkF m 11 #[.val (.long x0), .second] [(.int (0 : Int32))]))
      simp only [if_pos c3] at k1 ⊢
      exact k1
    · refine own_of (fun _ kk => XS.ifNo X0.here hx rfl (hb hby d3_3) rfl ((if0 _ _).trans (feq (mt (lw_eq _ _).mp c3)).1) kk) ?_
      show own_Fin _ _ _ _ _ _ _ (T0.setTop (mkF m 6 #[.val (.long x0), .second] []))
      refine own_of (fun _ kk => XS.iconst X0.here hx rfl (hb hby d3_6) kk) ?_
      show own_Fin _ _ _ _ _ _ _ (T0.setTop (mkF m 7 #[.val (.long x0), .second] [(.int (1 : Int32))]))
      refine own_of (fun _ kk => XS.goto X0.here hx rfl (pc0 := 7) (pc' := 11) rfl (hb hby d3_7) (by decide) (by decide) kk) ?_
      show own_Fin _ _ _ _ _ _ _ (T0.setTop (mkF m 11 #[.val (.long x0), .second] [(.int (1 : Int32))]))
      simp only [if_neg c3] at k1 ⊢
      exact k1
  show own_Fin _ _ _ _ _ _ _ (T0.setTop (mkF m 11 #[.val (.long x0), .second] [(.int (if x0 = (0 : Int64) then (0 : Int32) else (1 : Int32)))]))
  exact own_retI X0 hx hlk e0 hret (hb hby d3_11) (by decide) (by decide) ⟨by first | rfl | (simp only [own_f3]; done), rfl, rfl⟩
def own_f2 (x0 : Int64) : Int32 := ((((((((((1 : Int32) + (own_f3 (own_lushr x0 (7 : Int32)))) + (own_f3 (own_lushr x0 (14 : Int32)))) + (own_f3 (own_lushr x0 (21 : Int32)))) + (own_f3 (own_lushr x0 (28 : Int32)))) + (own_f3 (own_lushr x0 (35 : Int32)))) + (own_f3 (own_lushr x0 (42 : Int32)))) + (own_f3 (own_lushr x0 (49 : Int32)))) + (own_f3 (own_lushr x0 (56 : Int32)))) + (own_f3 (own_lushr x0 (63 : Int32))))
set_option maxRecDepth 65536 in
set_option maxHeartbeats 40000000 in
theorem met2 (l : Launch) (Z : State) (a0 : Array Value) (hw : ∀ d ∈ tables_1, d.before a0 Z = true) (x0 : Int64) (h0 : Heap) :
    own_Met l Z (⟨"com/example/dosefold/dosefold/sort/EncoderPutBitsPinLaw", "size", "(J)I"⟩ : MethodName) method_4_code 2 (some .int) { frames := 1, cells := 0, slots := 0, locals := 14 } #[(.long x0)] h0 (own_Pure (.int (own_f2 x0)) h0) := by
  refine own_met pn_2 ?_
  intro p e s m below meth c T0 X0 hx hby hml hown hZ e0 hret hlk hnm
  rw [ef_2 m x0]
  show own_Fin _ _ _ _ _ _ _ (T0.setTop (mkF m 0 #[.val (.long x0), .second] []))
  refine own_of (fun _ kk => XS.iconst X0.here hx rfl (hb hby d2_0) kk) ?_
  show own_Fin _ _ _ _ _ _ _ (T0.setTop (mkF m 1 #[.val (.long x0), .second] [(.int (1 : Int32))]))
  refine own_of (fun _ kk => XS.lloadN X0.here hx rfl (hb hby d2_1) rfl kk) ?_
  show own_Fin _ _ _ _ _ _ _ (T0.setTop (mkF m 2 #[.val (.long x0), .second] [(.long x0), (.int (1 : Int32))]))
  refine own_of (fun _ kk => XS.bipush X0.here hx rfl (hb hby d2_2) kk) ?_
  show own_Fin _ _ _ _ _ _ _ (T0.setTop (mkF m 4 #[.val (.long x0), .second] [(.int (7 : Int32)), (.long x0), (.int (1 : Int32))]))
  refine own_of (fun _ kk => XS.lushr X0.here hx rfl (hb hby d2_4) rfl kk) ?_
  show own_Fin _ _ _ _ _ _ _ (T0.setTop (mkF m 5 #[.val (.long x0), .second] [(.long (own_lushr x0 (7 : Int32))), (.int (1 : Int32))]))
  refine own_callP X0 hx hZ hown (hw _ (List.mem_of_getElem? (i := 10) rfl)) (hw _ (List.mem_of_getElem? (i := 11) rfl)) (hw _ (List.mem_of_getElem? (i := 8) rfl)) (hw _ (List.mem_of_getElem? (i := 12) rfl)) (by decide) e0 (argsL := [(.long (own_lushr x0 (7 : Int32)))]) (rv := (.int (own_f3 (own_lushr x0 (7 : Int32))))) (met3 l Z a0 hw (own_lushr x0 (7 : Int32)) h0) (W := 1) (by decide) (by decide) (by decide) (by decide) (by rw [hml]; rfl) pd_0 rfl (rest := [(.int (1 : Int32))]) rfl (Nat.le_of_eq rfl) (hb hby d2_5) ?_
  intro T1 X1 e1
  show own_Fin _ _ _ _ _ _ _ (T1.setTop (mkF m 8 #[.val (.long x0), .second] [(.int (own_f3 (own_lushr x0 (7 : Int32)))), (.int (1 : Int32))]))
  refine own_of (fun _ kk => XS.iadd X1.here hx rfl (hb hby d2_8) rfl kk) ?_
  show own_Fin _ _ _ _ _ _ _ (T1.setTop (mkF m 9 #[.val (.long x0), .second] [(.int ((1 : Int32) + (own_f3 (own_lushr x0 (7 : Int32)))))]))
  refine own_of (fun _ kk => XS.lloadN X1.here hx rfl (hb hby d2_9) rfl kk) ?_
  show own_Fin _ _ _ _ _ _ _ (T1.setTop (mkF m 10 #[.val (.long x0), .second] [(.long x0), (.int ((1 : Int32) + (own_f3 (own_lushr x0 (7 : Int32)))))]))
  refine own_of (fun _ kk => XS.bipush X1.here hx rfl (hb hby d2_10) kk) ?_
  show own_Fin _ _ _ _ _ _ _ (T1.setTop (mkF m 12 #[.val (.long x0), .second] [(.int (14 : Int32)), (.long x0), (.int ((1 : Int32) + (own_f3 (own_lushr x0 (7 : Int32)))))]))
  refine own_of (fun _ kk => XS.lushr X1.here hx rfl (hb hby d2_12) rfl kk) ?_
  show own_Fin _ _ _ _ _ _ _ (T1.setTop (mkF m 13 #[.val (.long x0), .second] [(.long (own_lushr x0 (14 : Int32))), (.int ((1 : Int32) + (own_f3 (own_lushr x0 (7 : Int32)))))]))
  refine own_callP X1 hx hZ hown (hw _ (List.mem_of_getElem? (i := 10) rfl)) (hw _ (List.mem_of_getElem? (i := 11) rfl)) (hw _ (List.mem_of_getElem? (i := 8) rfl)) (hw _ (List.mem_of_getElem? (i := 12) rfl)) (by decide) e1 (argsL := [(.long (own_lushr x0 (14 : Int32)))]) (rv := (.int (own_f3 (own_lushr x0 (14 : Int32))))) (met3 l Z a0 hw (own_lushr x0 (14 : Int32)) h0) (W := 1) (by decide) (by decide) (by decide) (by decide) (by rw [hml]; rfl) pd_0 rfl (rest := [(.int ((1 : Int32) + (own_f3 (own_lushr x0 (7 : Int32)))))]) rfl (Nat.le_of_eq rfl) (hb hby d2_13) ?_
  intro T2 X2 e2
  show own_Fin _ _ _ _ _ _ _ (T2.setTop (mkF m 16 #[.val (.long x0), .second] [(.int (own_f3 (own_lushr x0 (14 : Int32)))), (.int ((1 : Int32) + (own_f3 (own_lushr x0 (7 : Int32)))))]))
  refine own_of (fun _ kk => XS.iadd X2.here hx rfl (hb hby d2_16) rfl kk) ?_
  show own_Fin _ _ _ _ _ _ _ (T2.setTop (mkF m 17 #[.val (.long x0), .second] [(.int (((1 : Int32) + (own_f3 (own_lushr x0 (7 : Int32)))) + (own_f3 (own_lushr x0 (14 : Int32)))))]))
  refine own_of (fun _ kk => XS.lloadN X2.here hx rfl (hb hby d2_17) rfl kk) ?_
  show own_Fin _ _ _ _ _ _ _ (T2.setTop (mkF m 18 #[.val (.long x0), .second] [(.long x0), (.int (((1 : Int32) + (own_f3 (own_lushr x0 (7 : Int32)))) + (own_f3 (own_lushr x0 (14 : Int32)))))]))
  refine own_of (fun _ kk => XS.bipush X2.here hx rfl (hb hby d2_18) kk) ?_
  show own_Fin _ _ _ _ _ _ _ (T2.setTop (mkF m 20 #[.val (.long x0), .second] [(.int (21 : Int32)), (.long x0), (.int (((1 : Int32) + (own_f3 (own_lushr x0 (7 : Int32)))) + (own_f3 (own_lushr x0 (14 : Int32)))))]))
  refine own_of (fun _ kk => XS.lushr X2.here hx rfl (hb hby d2_20) rfl kk) ?_
  show own_Fin _ _ _ _ _ _ _ (T2.setTop (mkF m 21 #[.val (.long x0), .second] [(.long (own_lushr x0 (21 : Int32))), (.int (((1 : Int32) + (own_f3 (own_lushr x0 (7 : Int32)))) + (own_f3 (own_lushr x0 (14 : Int32)))))]))
  refine own_callP X2 hx hZ hown (hw _ (List.mem_of_getElem? (i := 10) rfl)) (hw _ (List.mem_of_getElem? (i := 11) rfl)) (hw _ (List.mem_of_getElem? (i := 8) rfl)) (hw _ (List.mem_of_getElem? (i := 12) rfl)) (by decide) e2 (argsL := [(.long (own_lushr x0 (21 : Int32)))]) (rv := (.int (own_f3 (own_lushr x0 (21 : Int32))))) (met3 l Z a0 hw (own_lushr x0 (21 : Int32)) h0) (W := 1) (by decide) (by decide) (by decide) (by decide) (by rw [hml]; rfl) pd_0 rfl (rest := [(.int (((1 : Int32) + (own_f3 (own_lushr x0 (7 : Int32)))) + (own_f3 (own_lushr x0 (14 : Int32)))))]) rfl (Nat.le_of_eq rfl) (hb hby d2_21) ?_
  intro T3 X3 e3
  show own_Fin _ _ _ _ _ _ _ (T3.setTop (mkF m 24 #[.val (.long x0), .second] [(.int (own_f3 (own_lushr x0 (21 : Int32)))), (.int (((1 : Int32) + (own_f3 (own_lushr x0 (7 : Int32)))) + (own_f3 (own_lushr x0 (14 : Int32)))))]))
  refine own_of (fun _ kk => XS.iadd X3.here hx rfl (hb hby d2_24) rfl kk) ?_
  show own_Fin _ _ _ _ _ _ _ (T3.setTop (mkF m 25 #[.val (.long x0), .second] [(.int ((((1 : Int32) + (own_f3 (own_lushr x0 (7 : Int32)))) + (own_f3 (own_lushr x0 (14 : Int32)))) + (own_f3 (own_lushr x0 (21 : Int32)))))]))
  refine own_of (fun _ kk => XS.lloadN X3.here hx rfl (hb hby d2_25) rfl kk) ?_
  show own_Fin _ _ _ _ _ _ _ (T3.setTop (mkF m 26 #[.val (.long x0), .second] [(.long x0), (.int ((((1 : Int32) + (own_f3 (own_lushr x0 (7 : Int32)))) + (own_f3 (own_lushr x0 (14 : Int32)))) + (own_f3 (own_lushr x0 (21 : Int32)))))]))
  refine own_of (fun _ kk => XS.bipush X3.here hx rfl (hb hby d2_26) kk) ?_
  show own_Fin _ _ _ _ _ _ _ (T3.setTop (mkF m 28 #[.val (.long x0), .second] [(.int (28 : Int32)), (.long x0), (.int ((((1 : Int32) + (own_f3 (own_lushr x0 (7 : Int32)))) + (own_f3 (own_lushr x0 (14 : Int32)))) + (own_f3 (own_lushr x0 (21 : Int32)))))]))
  refine own_of (fun _ kk => XS.lushr X3.here hx rfl (hb hby d2_28) rfl kk) ?_
  show own_Fin _ _ _ _ _ _ _ (T3.setTop (mkF m 29 #[.val (.long x0), .second] [(.long (own_lushr x0 (28 : Int32))), (.int ((((1 : Int32) + (own_f3 (own_lushr x0 (7 : Int32)))) + (own_f3 (own_lushr x0 (14 : Int32)))) + (own_f3 (own_lushr x0 (21 : Int32)))))]))
  refine own_callP X3 hx hZ hown (hw _ (List.mem_of_getElem? (i := 10) rfl)) (hw _ (List.mem_of_getElem? (i := 11) rfl)) (hw _ (List.mem_of_getElem? (i := 8) rfl)) (hw _ (List.mem_of_getElem? (i := 12) rfl)) (by decide) e3 (argsL := [(.long (own_lushr x0 (28 : Int32)))]) (rv := (.int (own_f3 (own_lushr x0 (28 : Int32))))) (met3 l Z a0 hw (own_lushr x0 (28 : Int32)) h0) (W := 1) (by decide) (by decide) (by decide) (by decide) (by rw [hml]; rfl) pd_0 rfl (rest := [(.int ((((1 : Int32) + (own_f3 (own_lushr x0 (7 : Int32)))) + (own_f3 (own_lushr x0 (14 : Int32)))) + (own_f3 (own_lushr x0 (21 : Int32)))))]) rfl (Nat.le_of_eq rfl) (hb hby d2_29) ?_
  intro T4 X4 e4
  show own_Fin _ _ _ _ _ _ _ (T4.setTop (mkF m 32 #[.val (.long x0), .second] [(.int (own_f3 (own_lushr x0 (28 : Int32)))), (.int ((((1 : Int32) + (own_f3 (own_lushr x0 (7 : Int32)))) + (own_f3 (own_lushr x0 (14 : Int32)))) + (own_f3 (own_lushr x0 (21 : Int32)))))]))
  refine own_of (fun _ kk => XS.iadd X4.here hx rfl (hb hby d2_32) rfl kk) ?_
  show own_Fin _ _ _ _ _ _ _ (T4.setTop (mkF m 33 #[.val (.long x0), .second] [(.int (((((1 : Int32) + (own_f3 (own_lushr x0 (7 : Int32)))) + (own_f3 (own_lushr x0 (14 : Int32)))) + (own_f3 (own_lushr x0 (21 : Int32)))) + (own_f3 (own_lushr x0 (28 : Int32)))))]))
  refine own_of (fun _ kk => XS.lloadN X4.here hx rfl (hb hby d2_33) rfl kk) ?_
  show own_Fin _ _ _ _ _ _ _ (T4.setTop (mkF m 34 #[.val (.long x0), .second] [(.long x0), (.int (((((1 : Int32) + (own_f3 (own_lushr x0 (7 : Int32)))) + (own_f3 (own_lushr x0 (14 : Int32)))) + (own_f3 (own_lushr x0 (21 : Int32)))) + (own_f3 (own_lushr x0 (28 : Int32)))))]))
  refine own_of (fun _ kk => XS.bipush X4.here hx rfl (hb hby d2_34) kk) ?_
  show own_Fin _ _ _ _ _ _ _ (T4.setTop (mkF m 36 #[.val (.long x0), .second] [(.int (35 : Int32)), (.long x0), (.int (((((1 : Int32) + (own_f3 (own_lushr x0 (7 : Int32)))) + (own_f3 (own_lushr x0 (14 : Int32)))) + (own_f3 (own_lushr x0 (21 : Int32)))) + (own_f3 (own_lushr x0 (28 : Int32)))))]))
  refine own_of (fun _ kk => XS.lushr X4.here hx rfl (hb hby d2_36) rfl kk) ?_
  show own_Fin _ _ _ _ _ _ _ (T4.setTop (mkF m 37 #[.val (.long x0), .second] [(.long (own_lushr x0 (35 : Int32))), (.int (((((1 : Int32) + (own_f3 (own_lushr x0 (7 : Int32)))) + (own_f3 (own_lushr x0 (14 : Int32)))) + (own_f3 (own_lushr x0 (21 : Int32)))) + (own_f3 (own_lushr x0 (28 : Int32)))))]))
  refine own_callP X4 hx hZ hown (hw _ (List.mem_of_getElem? (i := 10) rfl)) (hw _ (List.mem_of_getElem? (i := 11) rfl)) (hw _ (List.mem_of_getElem? (i := 8) rfl)) (hw _ (List.mem_of_getElem? (i := 12) rfl)) (by decide) e4 (argsL := [(.long (own_lushr x0 (35 : Int32)))]) (rv := (.int (own_f3 (own_lushr x0 (35 : Int32))))) (met3 l Z a0 hw (own_lushr x0 (35 : Int32)) h0) (W := 1) (by decide) (by decide) (by decide) (by decide) (by rw [hml]; rfl) pd_0 rfl (rest := [(.int (((((1 : Int32) + (own_f3 (own_lushr x0 (7 : Int32)))) + (own_f3 (own_lushr x0 (14 : Int32)))) + (own_f3 (own_lushr x0 (21 : Int32)))) + (own_f3 (own_lushr x0 (28 : Int32)))))]) rfl (Nat.le_of_eq rfl) (hb hby d2_37) ?_
  intro T5 X5 e5
  show own_Fin _ _ _ _ _ _ _ (T5.setTop (mkF m 40 #[.val (.long x0), .second] [(.int (own_f3 (own_lushr x0 (35 : Int32)))), (.int (((((1 : Int32) + (own_f3 (own_lushr x0 (7 : Int32)))) + (own_f3 (own_lushr x0 (14 : Int32)))) + (own_f3 (own_lushr x0 (21 : Int32)))) + (own_f3 (own_lushr x0 (28 : Int32)))))]))
  refine own_of (fun _ kk => XS.iadd X5.here hx rfl (hb hby d2_40) rfl kk) ?_
  show own_Fin _ _ _ _ _ _ _ (T5.setTop (mkF m 41 #[.val (.long x0), .second] [(.int ((((((1 : Int32) + (own_f3 (own_lushr x0 (7 : Int32)))) + (own_f3 (own_lushr x0 (14 : Int32)))) + (own_f3 (own_lushr x0 (21 : Int32)))) + (own_f3 (own_lushr x0 (28 : Int32)))) + (own_f3 (own_lushr x0 (35 : Int32)))))]))
  refine own_of (fun _ kk => XS.lloadN X5.here hx rfl (hb hby d2_41) rfl kk) ?_
  show own_Fin _ _ _ _ _ _ _ (T5.setTop (mkF m 42 #[.val (.long x0), .second] [(.long x0), (.int ((((((1 : Int32) + (own_f3 (own_lushr x0 (7 : Int32)))) + (own_f3 (own_lushr x0 (14 : Int32)))) + (own_f3 (own_lushr x0 (21 : Int32)))) + (own_f3 (own_lushr x0 (28 : Int32)))) + (own_f3 (own_lushr x0 (35 : Int32)))))]))
  refine own_of (fun _ kk => XS.bipush X5.here hx rfl (hb hby d2_42) kk) ?_
  show own_Fin _ _ _ _ _ _ _ (T5.setTop (mkF m 44 #[.val (.long x0), .second] [(.int (42 : Int32)), (.long x0), (.int ((((((1 : Int32) + (own_f3 (own_lushr x0 (7 : Int32)))) + (own_f3 (own_lushr x0 (14 : Int32)))) + (own_f3 (own_lushr x0 (21 : Int32)))) + (own_f3 (own_lushr x0 (28 : Int32)))) + (own_f3 (own_lushr x0 (35 : Int32)))))]))
  refine own_of (fun _ kk => XS.lushr X5.here hx rfl (hb hby d2_44) rfl kk) ?_
  show own_Fin _ _ _ _ _ _ _ (T5.setTop (mkF m 45 #[.val (.long x0), .second] [(.long (own_lushr x0 (42 : Int32))), (.int ((((((1 : Int32) + (own_f3 (own_lushr x0 (7 : Int32)))) + (own_f3 (own_lushr x0 (14 : Int32)))) + (own_f3 (own_lushr x0 (21 : Int32)))) + (own_f3 (own_lushr x0 (28 : Int32)))) + (own_f3 (own_lushr x0 (35 : Int32)))))]))
  refine own_callP X5 hx hZ hown (hw _ (List.mem_of_getElem? (i := 10) rfl)) (hw _ (List.mem_of_getElem? (i := 11) rfl)) (hw _ (List.mem_of_getElem? (i := 8) rfl)) (hw _ (List.mem_of_getElem? (i := 12) rfl)) (by decide) e5 (argsL := [(.long (own_lushr x0 (42 : Int32)))]) (rv := (.int (own_f3 (own_lushr x0 (42 : Int32))))) (met3 l Z a0 hw (own_lushr x0 (42 : Int32)) h0) (W := 1) (by decide) (by decide) (by decide) (by decide) (by rw [hml]; rfl) pd_0 rfl (rest := [(.int ((((((1 : Int32) + (own_f3 (own_lushr x0 (7 : Int32)))) + (own_f3 (own_lushr x0 (14 : Int32)))) + (own_f3 (own_lushr x0 (21 : Int32)))) + (own_f3 (own_lushr x0 (28 : Int32)))) + (own_f3 (own_lushr x0 (35 : Int32)))))]) rfl (Nat.le_of_eq rfl) (hb hby d2_45) ?_
  intro T6 X6 e6
  show own_Fin _ _ _ _ _ _ _ (T6.setTop (mkF m 48 #[.val (.long x0), .second] [(.int (own_f3 (own_lushr x0 (42 : Int32)))), (.int ((((((1 : Int32) + (own_f3 (own_lushr x0 (7 : Int32)))) + (own_f3 (own_lushr x0 (14 : Int32)))) + (own_f3 (own_lushr x0 (21 : Int32)))) + (own_f3 (own_lushr x0 (28 : Int32)))) + (own_f3 (own_lushr x0 (35 : Int32)))))]))
  refine own_of (fun _ kk => XS.iadd X6.here hx rfl (hb hby d2_48) rfl kk) ?_
  show own_Fin _ _ _ _ _ _ _ (T6.setTop (mkF m 49 #[.val (.long x0), .second] [(.int (((((((1 : Int32) + (own_f3 (own_lushr x0 (7 : Int32)))) + (own_f3 (own_lushr x0 (14 : Int32)))) + (own_f3 (own_lushr x0 (21 : Int32)))) + (own_f3 (own_lushr x0 (28 : Int32)))) + (own_f3 (own_lushr x0 (35 : Int32)))) + (own_f3 (own_lushr x0 (42 : Int32)))))]))
  refine own_of (fun _ kk => XS.lloadN X6.here hx rfl (hb hby d2_49) rfl kk) ?_
  show own_Fin _ _ _ _ _ _ _ (T6.setTop (mkF m 50 #[.val (.long x0), .second] [(.long x0), (.int (((((((1 : Int32) + (own_f3 (own_lushr x0 (7 : Int32)))) + (own_f3 (own_lushr x0 (14 : Int32)))) + (own_f3 (own_lushr x0 (21 : Int32)))) + (own_f3 (own_lushr x0 (28 : Int32)))) + (own_f3 (own_lushr x0 (35 : Int32)))) + (own_f3 (own_lushr x0 (42 : Int32)))))]))
  refine own_of (fun _ kk => XS.bipush X6.here hx rfl (hb hby d2_50) kk) ?_
  show own_Fin _ _ _ _ _ _ _ (T6.setTop (mkF m 52 #[.val (.long x0), .second] [(.int (49 : Int32)), (.long x0), (.int (((((((1 : Int32) + (own_f3 (own_lushr x0 (7 : Int32)))) + (own_f3 (own_lushr x0 (14 : Int32)))) + (own_f3 (own_lushr x0 (21 : Int32)))) + (own_f3 (own_lushr x0 (28 : Int32)))) + (own_f3 (own_lushr x0 (35 : Int32)))) + (own_f3 (own_lushr x0 (42 : Int32)))))]))
  refine own_of (fun _ kk => XS.lushr X6.here hx rfl (hb hby d2_52) rfl kk) ?_
  show own_Fin _ _ _ _ _ _ _ (T6.setTop (mkF m 53 #[.val (.long x0), .second] [(.long (own_lushr x0 (49 : Int32))), (.int (((((((1 : Int32) + (own_f3 (own_lushr x0 (7 : Int32)))) + (own_f3 (own_lushr x0 (14 : Int32)))) + (own_f3 (own_lushr x0 (21 : Int32)))) + (own_f3 (own_lushr x0 (28 : Int32)))) + (own_f3 (own_lushr x0 (35 : Int32)))) + (own_f3 (own_lushr x0 (42 : Int32)))))]))
  refine own_callP X6 hx hZ hown (hw _ (List.mem_of_getElem? (i := 10) rfl)) (hw _ (List.mem_of_getElem? (i := 11) rfl)) (hw _ (List.mem_of_getElem? (i := 8) rfl)) (hw _ (List.mem_of_getElem? (i := 12) rfl)) (by decide) e6 (argsL := [(.long (own_lushr x0 (49 : Int32)))]) (rv := (.int (own_f3 (own_lushr x0 (49 : Int32))))) (met3 l Z a0 hw (own_lushr x0 (49 : Int32)) h0) (W := 1) (by decide) (by decide) (by decide) (by decide) (by rw [hml]; rfl) pd_0 rfl (rest := [(.int (((((((1 : Int32) + (own_f3 (own_lushr x0 (7 : Int32)))) + (own_f3 (own_lushr x0 (14 : Int32)))) + (own_f3 (own_lushr x0 (21 : Int32)))) + (own_f3 (own_lushr x0 (28 : Int32)))) + (own_f3 (own_lushr x0 (35 : Int32)))) + (own_f3 (own_lushr x0 (42 : Int32)))))]) rfl (Nat.le_of_eq rfl) (hb hby d2_53) ?_
  intro T7 X7 e7
  show own_Fin _ _ _ _ _ _ _ (T7.setTop (mkF m 56 #[.val (.long x0), .second] [(.int (own_f3 (own_lushr x0 (49 : Int32)))), (.int (((((((1 : Int32) + (own_f3 (own_lushr x0 (7 : Int32)))) + (own_f3 (own_lushr x0 (14 : Int32)))) + (own_f3 (own_lushr x0 (21 : Int32)))) + (own_f3 (own_lushr x0 (28 : Int32)))) + (own_f3 (own_lushr x0 (35 : Int32)))) + (own_f3 (own_lushr x0 (42 : Int32)))))]))
  refine own_of (fun _ kk => XS.iadd X7.here hx rfl (hb hby d2_56) rfl kk) ?_
  show own_Fin _ _ _ _ _ _ _ (T7.setTop (mkF m 57 #[.val (.long x0), .second] [(.int ((((((((1 : Int32) + (own_f3 (own_lushr x0 (7 : Int32)))) + (own_f3 (own_lushr x0 (14 : Int32)))) + (own_f3 (own_lushr x0 (21 : Int32)))) + (own_f3 (own_lushr x0 (28 : Int32)))) + (own_f3 (own_lushr x0 (35 : Int32)))) + (own_f3 (own_lushr x0 (42 : Int32)))) + (own_f3 (own_lushr x0 (49 : Int32)))))]))
  refine own_of (fun _ kk => XS.lloadN X7.here hx rfl (hb hby d2_57) rfl kk) ?_
  show own_Fin _ _ _ _ _ _ _ (T7.setTop (mkF m 58 #[.val (.long x0), .second] [(.long x0), (.int ((((((((1 : Int32) + (own_f3 (own_lushr x0 (7 : Int32)))) + (own_f3 (own_lushr x0 (14 : Int32)))) + (own_f3 (own_lushr x0 (21 : Int32)))) + (own_f3 (own_lushr x0 (28 : Int32)))) + (own_f3 (own_lushr x0 (35 : Int32)))) + (own_f3 (own_lushr x0 (42 : Int32)))) + (own_f3 (own_lushr x0 (49 : Int32)))))]))
  refine own_of (fun _ kk => XS.bipush X7.here hx rfl (hb hby d2_58) kk) ?_
  show own_Fin _ _ _ _ _ _ _ (T7.setTop (mkF m 60 #[.val (.long x0), .second] [(.int (56 : Int32)), (.long x0), (.int ((((((((1 : Int32) + (own_f3 (own_lushr x0 (7 : Int32)))) + (own_f3 (own_lushr x0 (14 : Int32)))) + (own_f3 (own_lushr x0 (21 : Int32)))) + (own_f3 (own_lushr x0 (28 : Int32)))) + (own_f3 (own_lushr x0 (35 : Int32)))) + (own_f3 (own_lushr x0 (42 : Int32)))) + (own_f3 (own_lushr x0 (49 : Int32)))))]))
  refine own_of (fun _ kk => XS.lushr X7.here hx rfl (hb hby d2_60) rfl kk) ?_
  show own_Fin _ _ _ _ _ _ _ (T7.setTop (mkF m 61 #[.val (.long x0), .second] [(.long (own_lushr x0 (56 : Int32))), (.int ((((((((1 : Int32) + (own_f3 (own_lushr x0 (7 : Int32)))) + (own_f3 (own_lushr x0 (14 : Int32)))) + (own_f3 (own_lushr x0 (21 : Int32)))) + (own_f3 (own_lushr x0 (28 : Int32)))) + (own_f3 (own_lushr x0 (35 : Int32)))) + (own_f3 (own_lushr x0 (42 : Int32)))) + (own_f3 (own_lushr x0 (49 : Int32)))))]))
  refine own_callP X7 hx hZ hown (hw _ (List.mem_of_getElem? (i := 10) rfl)) (hw _ (List.mem_of_getElem? (i := 11) rfl)) (hw _ (List.mem_of_getElem? (i := 8) rfl)) (hw _ (List.mem_of_getElem? (i := 12) rfl)) (by decide) e7 (argsL := [(.long (own_lushr x0 (56 : Int32)))]) (rv := (.int (own_f3 (own_lushr x0 (56 : Int32))))) (met3 l Z a0 hw (own_lushr x0 (56 : Int32)) h0) (W := 1) (by decide) (by decide) (by decide) (by decide) (by rw [hml]; rfl) pd_0 rfl (rest := [(.int ((((((((1 : Int32) + (own_f3 (own_lushr x0 (7 : Int32)))) + (own_f3 (own_lushr x0 (14 : Int32)))) + (own_f3 (own_lushr x0 (21 : Int32)))) + (own_f3 (own_lushr x0 (28 : Int32)))) + (own_f3 (own_lushr x0 (35 : Int32)))) + (own_f3 (own_lushr x0 (42 : Int32)))) + (own_f3 (own_lushr x0 (49 : Int32)))))]) rfl (Nat.le_of_eq rfl) (hb hby d2_61) ?_
  intro T8 X8 e8
  show own_Fin _ _ _ _ _ _ _ (T8.setTop (mkF m 64 #[.val (.long x0), .second] [(.int (own_f3 (own_lushr x0 (56 : Int32)))), (.int ((((((((1 : Int32) + (own_f3 (own_lushr x0 (7 : Int32)))) + (own_f3 (own_lushr x0 (14 : Int32)))) + (own_f3 (own_lushr x0 (21 : Int32)))) + (own_f3 (own_lushr x0 (28 : Int32)))) + (own_f3 (own_lushr x0 (35 : Int32)))) + (own_f3 (own_lushr x0 (42 : Int32)))) + (own_f3 (own_lushr x0 (49 : Int32)))))]))
  refine own_of (fun _ kk => XS.iadd X8.here hx rfl (hb hby d2_64) rfl kk) ?_
  show own_Fin _ _ _ _ _ _ _ (T8.setTop (mkF m 65 #[.val (.long x0), .second] [(.int (((((((((1 : Int32) + (own_f3 (own_lushr x0 (7 : Int32)))) + (own_f3 (own_lushr x0 (14 : Int32)))) + (own_f3 (own_lushr x0 (21 : Int32)))) + (own_f3 (own_lushr x0 (28 : Int32)))) + (own_f3 (own_lushr x0 (35 : Int32)))) + (own_f3 (own_lushr x0 (42 : Int32)))) + (own_f3 (own_lushr x0 (49 : Int32)))) + (own_f3 (own_lushr x0 (56 : Int32)))))]))
  refine own_of (fun _ kk => XS.lloadN X8.here hx rfl (hb hby d2_65) rfl kk) ?_
  show own_Fin _ _ _ _ _ _ _ (T8.setTop (mkF m 66 #[.val (.long x0), .second] [(.long x0), (.int (((((((((1 : Int32) + (own_f3 (own_lushr x0 (7 : Int32)))) + (own_f3 (own_lushr x0 (14 : Int32)))) + (own_f3 (own_lushr x0 (21 : Int32)))) + (own_f3 (own_lushr x0 (28 : Int32)))) + (own_f3 (own_lushr x0 (35 : Int32)))) + (own_f3 (own_lushr x0 (42 : Int32)))) + (own_f3 (own_lushr x0 (49 : Int32)))) + (own_f3 (own_lushr x0 (56 : Int32)))))]))
  refine own_of (fun _ kk => XS.bipush X8.here hx rfl (hb hby d2_66) kk) ?_
  show own_Fin _ _ _ _ _ _ _ (T8.setTop (mkF m 68 #[.val (.long x0), .second] [(.int (63 : Int32)), (.long x0), (.int (((((((((1 : Int32) + (own_f3 (own_lushr x0 (7 : Int32)))) + (own_f3 (own_lushr x0 (14 : Int32)))) + (own_f3 (own_lushr x0 (21 : Int32)))) + (own_f3 (own_lushr x0 (28 : Int32)))) + (own_f3 (own_lushr x0 (35 : Int32)))) + (own_f3 (own_lushr x0 (42 : Int32)))) + (own_f3 (own_lushr x0 (49 : Int32)))) + (own_f3 (own_lushr x0 (56 : Int32)))))]))
  refine own_of (fun _ kk => XS.lushr X8.here hx rfl (hb hby d2_68) rfl kk) ?_
  show own_Fin _ _ _ _ _ _ _ (T8.setTop (mkF m 69 #[.val (.long x0), .second] [(.long (own_lushr x0 (63 : Int32))), (.int (((((((((1 : Int32) + (own_f3 (own_lushr x0 (7 : Int32)))) + (own_f3 (own_lushr x0 (14 : Int32)))) + (own_f3 (own_lushr x0 (21 : Int32)))) + (own_f3 (own_lushr x0 (28 : Int32)))) + (own_f3 (own_lushr x0 (35 : Int32)))) + (own_f3 (own_lushr x0 (42 : Int32)))) + (own_f3 (own_lushr x0 (49 : Int32)))) + (own_f3 (own_lushr x0 (56 : Int32)))))]))
  refine own_callP X8 hx hZ hown (hw _ (List.mem_of_getElem? (i := 10) rfl)) (hw _ (List.mem_of_getElem? (i := 11) rfl)) (hw _ (List.mem_of_getElem? (i := 8) rfl)) (hw _ (List.mem_of_getElem? (i := 12) rfl)) (by decide) e8 (argsL := [(.long (own_lushr x0 (63 : Int32)))]) (rv := (.int (own_f3 (own_lushr x0 (63 : Int32))))) (met3 l Z a0 hw (own_lushr x0 (63 : Int32)) h0) (W := 1) (by decide) (by decide) (by decide) (by decide) (by rw [hml]; rfl) pd_0 rfl (rest := [(.int (((((((((1 : Int32) + (own_f3 (own_lushr x0 (7 : Int32)))) + (own_f3 (own_lushr x0 (14 : Int32)))) + (own_f3 (own_lushr x0 (21 : Int32)))) + (own_f3 (own_lushr x0 (28 : Int32)))) + (own_f3 (own_lushr x0 (35 : Int32)))) + (own_f3 (own_lushr x0 (42 : Int32)))) + (own_f3 (own_lushr x0 (49 : Int32)))) + (own_f3 (own_lushr x0 (56 : Int32)))))]) rfl (Nat.le_of_eq rfl) (hb hby d2_69) ?_
  intro T9 X9 e9
  show own_Fin _ _ _ _ _ _ _ (T9.setTop (mkF m 72 #[.val (.long x0), .second] [(.int (own_f3 (own_lushr x0 (63 : Int32)))), (.int (((((((((1 : Int32) + (own_f3 (own_lushr x0 (7 : Int32)))) + (own_f3 (own_lushr x0 (14 : Int32)))) + (own_f3 (own_lushr x0 (21 : Int32)))) + (own_f3 (own_lushr x0 (28 : Int32)))) + (own_f3 (own_lushr x0 (35 : Int32)))) + (own_f3 (own_lushr x0 (42 : Int32)))) + (own_f3 (own_lushr x0 (49 : Int32)))) + (own_f3 (own_lushr x0 (56 : Int32)))))]))
  refine own_of (fun _ kk => XS.iadd X9.here hx rfl (hb hby d2_72) rfl kk) ?_
  show own_Fin _ _ _ _ _ _ _ (T9.setTop (mkF m 73 #[.val (.long x0), .second] [(.int ((((((((((1 : Int32) + (own_f3 (own_lushr x0 (7 : Int32)))) + (own_f3 (own_lushr x0 (14 : Int32)))) + (own_f3 (own_lushr x0 (21 : Int32)))) + (own_f3 (own_lushr x0 (28 : Int32)))) + (own_f3 (own_lushr x0 (35 : Int32)))) + (own_f3 (own_lushr x0 (42 : Int32)))) + (own_f3 (own_lushr x0 (49 : Int32)))) + (own_f3 (own_lushr x0 (56 : Int32)))) + (own_f3 (own_lushr x0 (63 : Int32)))))]))
  exact own_retI X9 hx hlk e9 hret (hb hby d2_73) (by decide) (by decide) ⟨by first | rfl | (simp only [own_f2]; done), rfl, rfl⟩
def own_cont (v : Int64) (t : Nat) : Prop := ¬ (own_sr v (7 * t) &&& (-128 : Int64)) = 0
def own_cb (v : Int64) (t : Nat) : Int32 := own_i2b (own_i2b (own_sr v (7 * t) ||| (128 : Int64)).toInt32)
def own_lb (v : Int64) (t : Nat) : Int32 := own_i2b (own_i2b (own_sr v (7 * t)).toInt32)
def own_w (a : Nat) (v : Int64) (f : Nat → Int32) (i j : Nat) : Int32 := if a ≤ j ∧ j < a + i then own_cb v (j - a) else f j
def own_w2 (a : Nat) (v : Int64) (f : Nat → Int32) (k j : Nat) : Int32 := if j = a + k then own_lb v k else own_w a v f k j
theorem own_w0 (a : Nat) (v : Int64) (f : Nat → Int32) (j : Nat) : f j = own_w a v f 0 j := by unfold own_w; rw [if_neg (by omega)]
theorem own_wstep (a : Nat) (v : Int64) (f : Nat → Int32) (i j : Nat) : (if j = (a + i) then (Value.int (own_cb v i)) else (fun j => Value.int (own_w a v f i j)) j) = .int (own_w a v f (i + 1) j) := by
  dsimp only
  unfold own_w
  by_cases h : j = a + i
  · subst h
    rw [if_pos rfl, if_pos (by omega), show a + i - a = i by omega]
  · rw [if_neg h]
    by_cases h2 : a ≤ j ∧ j < a + i
    · rw [if_pos h2, if_pos (by omega)]
    · rw [if_neg h2, if_neg (by omega)]
theorem own_wlast (a : Nat) (v : Int64) (f : Nat → Int32) (i j : Nat) : (if j = (a + i) then (Value.int (own_lb v i)) else (fun j => Value.int (own_w a v f i j)) j) = .int (own_w2 a v f i j) := by
  dsimp only
  unfold own_w2
  split <;> rfl
theorem own_split (x m : BitVec 64) : (x &&& ~~~ m) + (x &&& m) = x := by
  rw [BitVec.add_eq_or_of_and_eq_zero]
  · ext i hi; simp only [BitVec.getElem_or, BitVec.getElem_and, BitVec.getElem_not]; cases x[i] <;> cases m[i] <;> rfl
  · ext i hi; simp only [BitVec.getElem_and, BitVec.getElem_not, BitVec.getElem_zero]; cases x[i] <;> cases m[i] <;> rfl
theorem own_mask (x : Int64) : (x &&& (-128 : Int64)) = 0 ↔ x.toBitVec.toNat < 128 := by
  rw [own_l0]
  show (x.toBitVec &&& (-128 : Int64).toBitVec).toNat = 0 ↔ _
  have e : (-128 : Int64).toBitVec = ~~~ (127#64) := by decide
  have h : (x.toBitVec &&& ~~~ (127#64)).toNat = x.toBitVec.toNat - x.toBitVec.toNat % 128 := by
    have h1 : (x.toBitVec &&& (127#64)).toNat = x.toBitVec.toNat % 128 := by
      rw [BitVec.toNat_and, show (127#64).toNat = 2 ^ 7 - 1 from rfl, Nat.and_two_pow_sub_one_eq_mod]
    have h2 : (x.toBitVec &&& ~~~ (127#64)) + (x.toBitVec &&& (127#64)) = x.toBitVec := own_split _ _
    have h3 := congrArg BitVec.toNat h2
    rw [BitVec.toNat_add, h1] at h3
    have b1 := (x.toBitVec &&& ~~~ (127#64)).isLt
    have b2 := x.toBitVec.isLt
    have h4 : (x.toBitVec &&& ~~~ (127#64)).toNat ≤ x.toBitVec.toNat := by rw [BitVec.toNat_and]; exact Nat.and_le_left
    omega
  rw [e, h]; omega
theorem own_end (v : Int64) : (own_sr v (7 * 9) &&& (-128 : Int64)) = 0 := by
  rw [own_mask, own_sr_nat]
  have := v.toBitVec.isLt
  omega
theorem own_p1 {p : Int32} {a i : Nat} (hp : p.toInt = ((a + i : Nat) : Int)) (h : a + i < 100) : (p + 1).toInt = ((a + (i + 1) : Nat) : Int) := by
  have h1 := c_iadd p 1
  have h2 := rng32 (p + 1)
  have k : (1 : Int32).toInt = 1 := by decide
  omega
set_option maxRecDepth 65536 in
set_option maxHeartbeats 40000000 in
theorem own_loop1 (l : Launch) (Z : State) (a0 : Array Value) (hw : ∀ d ∈ tables_1, d.before a0 Z = true) (x0 : Addr) (x1 : Int32) (x2 : Int64) (a : Nat) (n : Nat) (f : Nat → Int32) (n0 : Nat) {p : Program} {e : Env} {R : Room} {s : State} {m : MethodId} {args : Array Value} {below : List Frame} {meth : Method} {c : Code} (hx : p.tables.exec = Jvm.exec) (hby : c.code = prog_200_method_11_code) (hml : c.maxLocals = 7) (hown : s.vm.findClass "com/example/dosefold/dosefold/sort/Encoder" = some m.cls) (hZ : Z.Warmed39 s.vm) (hret : meth.sig.returnType = some .int) (hlk : meth.locks = false) (ge : n0 ≤ x0) (han : a + 10 ≤ n) (hn : n ≤ 16) :
    ∀ (d : Nat) (i : Nat) (p4 : Int32) (T0 : State) (locs : List Loc) (h0 : Heap), Stand p l e R s m args below meth c T0 locs 0 0 → Fr n0 locs → n0 ≤ h0.size → T0.heap = h0 → (i + d = 9) → (p4.toInt = ((a + i : Nat) : Int)) → (∀ t, t < i → own_cont x2 t) → (own_Arf Z h0 x0 .byte n (fun j => .int (own_w a x2 f i j))) → own_Fin p e below s 0 0 (fun v h L => ∃ (k : Nat) (z : Int32), v = some (.int z) ∧ Fr n0 L ∧ n0 ≤ h.size ∧ k ≤ 9 ∧ z.toInt = ((a + (k + 1) : Nat) : Int) ∧ (∀ t, t < k → own_cont x2 t) ∧ ¬ own_cont x2 k ∧ own_Arf Z h x0 .byte n (fun j => .int (own_w2 a x2 f k j))) (T0.setTop (mkF m 6 #[.val (.ref x0), .val (.int x1), .val (.long x2), .second, .val (.int p4), .val (.long (own_sr x2 (7 * i))), .second] [])) := by
  intro d
  induction d with
  | zero =>
    intro i p4 T0 locs h0 X0 N0 Z0 e0 hm hp hcs A
    have c14 : (own_sr x2 (7 * i) &&& (-128 : Int64)) = 0 := by rw [show i = 9 by omega]; exact own_end x2
    show own_Fin _ _ _ _ _ _ _ (T0.setTop (mkF m 6 #[.val (.ref x0), .val (.int x1), .val (.long x2), .second, .val (.int p4), .val (.long (own_sr x2 (7 * i))), .second] []))
    refine own_of (fun _ kk => XS.lload X0.here hx rfl (hb hby d1_6) rfl kk) ?_
    show own_Fin _ _ _ _ _ _ _ (T0.setTop (mkF m 8 #[.val (.ref x0), .val (.int x1), .val (.long x2), .second, .val (.int p4), .val (.long (own_sr x2 (7 * i))), .second] [(.long (own_sr x2 (7 * i)))]))
    refine own_of (fun _ kk => X0.ldc2Long hx hown (mvT hZ (hw _ (List.mem_of_getElem? (i := 5) rfl))) (g := (mkF m 8 #[.val (.ref x0), .val (.int x1), .val (.long x2), .second, .val (.int p4), .val (.long (own_sr x2 (7 * i))), .second] [(.long (own_sr x2 (7 * i)))])) rfl (hb hby d1_8) _ kk) ?_
    show own_Fin _ _ _ _ _ _ _ (T0.setTop (mkF m 11 #[.val (.ref x0), .val (.int x1), .val (.long x2), .second, .val (.int p4), .val (.long (own_sr x2 (7 * i))), .second] [(.long (-128 : Int64)), (.long (own_sr x2 (7 * i)))]))
    refine own_of (fun _ kk => XS.land X0.here hx rfl (hb hby d1_11) rfl kk) ?_
    show own_Fin _ _ _ _ _ _ _ (T0.setTop (mkF m 12 #[.val (.ref x0), .val (.int x1), .val (.long x2), .second, .val (.int p4), .val (.long (own_sr x2 (7 * i))), .second] [(.long ((own_sr x2 (7 * i)) &&& (-128 : Int64)))]))
    refine own_of (fun _ kk => XS.lconst X0.here hx rfl (hb hby d1_12) kk) ?_
    show own_Fin _ _ _ _ _ _ _ (T0.setTop (mkF m 13 #[.val (.ref x0), .val (.int x1), .val (.long x2), .second, .val (.int p4), .val (.long (own_sr x2 (7 * i))), .second] [(.long (0 : Int64)), (.long ((own_sr x2 (7 * i)) &&& (-128 : Int64)))]))
    refine own_of (fun _ kk => XS.lcmp X0.here hx rfl (hb hby d1_13) rfl kk) ?_
    show own_Fin _ _ _ _ _ _ _ (T0.setTop (mkF m 14 #[.val (.ref x0), .val (.int x1), .val (.long x2), .second, .val (.int p4), .val (.long (own_sr x2 (7 * i))), .second] [(.int (lcmpW ((own_sr x2 (7 * i)) &&& (-128 : Int64)) (0 : Int64)))]))
    refine own_of (fun _ kk => XS.ifYes X0.here hx rfl (pc0 := 14) (pc' := 42) rfl (hb hby d1_14) rfl ((if0 _ _).trans (teq ((lw_eq _ _).mpr c14)).1) (by decide) (by decide) kk) ?_
    show own_Fin _ _ _ _ _ _ _ (T0.setTop (mkF m 42 #[.val (.ref x0), .val (.int x1), .val (.long x2), .second, .val (.int p4), .val (.long (own_sr x2 (7 * i))), .second] []))
    refine own_of (fun _ kk => XS.aloadN X0.here hx rfl (hb hby d1_42) rfl rfl kk) ?_
    show own_Fin _ _ _ _ _ _ _ (T0.setTop (mkF m 43 #[.val (.ref x0), .val (.int x1), .val (.long x2), .second, .val (.int p4), .val (.long (own_sr x2 (7 * i))), .second] [(.ref x0)]))
    refine own_of (fun _ kk => XS.iload X0.here hx rfl (hb hby d1_43) rfl kk) ?_
    show own_Fin _ _ _ _ _ _ _ (T0.setTop (mkF m 45 #[.val (.ref x0), .val (.int x1), .val (.long x2), .second, .val (.int p4), .val (.long (own_sr x2 (7 * i))), .second] [(.int p4), (.ref x0)]))
    refine own_of (fun _ kk => XS.iinc X0.here hx rfl (hb hby d1_45) rfl (l' := #[.val (.ref x0), .val (.int x1), .val (.long x2), .second, .val (.int (p4 + (1 : Int32))), .val (.long (own_sr x2 (7 * i))), .second]) rfl kk) ?_
    show own_Fin _ _ _ _ _ _ _ (T0.setTop (mkF m 48 #[.val (.ref x0), .val (.int x1), .val (.long x2), .second, .val (.int (p4 + (1 : Int32))), .val (.long (own_sr x2 (7 * i))), .second] [(.int p4), (.ref x0)]))
    refine own_of (fun _ kk => XS.lload X0.here hx rfl (hb hby d1_48) rfl kk) ?_
    show own_Fin _ _ _ _ _ _ _ (T0.setTop (mkF m 50 #[.val (.ref x0), .val (.int x1), .val (.long x2), .second, .val (.int (p4 + (1 : Int32))), .val (.long (own_sr x2 (7 * i))), .second] [(.long (own_sr x2 (7 * i))), (.int p4), (.ref x0)]))
    refine own_of (fun _ kk => XS.l2i X0.here hx rfl (hb hby d1_50) rfl kk) ?_
    show own_Fin _ _ _ _ _ _ _ (T0.setTop (mkF m 51 #[.val (.ref x0), .val (.int x1), .val (.long x2), .second, .val (.int (p4 + (1 : Int32))), .val (.long (own_sr x2 (7 * i))), .second] [(.int (own_sr x2 (7 * i)).toInt32), (.int p4), (.ref x0)]))
    refine own_of (fun _ kk => XS.i2b X0.here hx rfl (hb hby d1_51) rfl kk) ?_
    show own_Fin _ _ _ _ _ _ _ (T0.setTop (mkF m 52 #[.val (.ref x0), .val (.int x1), .val (.long x2), .second, .val (.int (p4 + (1 : Int32))), .val (.long (own_sr x2 (7 * i))), .second] [(.int (own_i2b (own_sr x2 (7 * i)).toInt32)), (.int p4), (.ref x0)]))
    refine own_bastore X0 hx hZ e0 A N0 ge (i := (a + i)) hp (by omega) (hb hby d1_52) ?_
    intro T1 h1 l1 X1 N1 e1 W1 A1
    replace A1 : own_Arf Z h1 x0 .byte n (fun j => if j = (a + i) then (.int (own_i2b (own_i2b (own_sr x2 (7 * i)).toInt32))) else (fun j => .int (own_w a x2 f i j)) j) := A1
    have ZW1 : n0 ≤ h1.size := by rw [Wr.size W1]; exact Z0
    show own_Fin _ _ _ _ _ _ _ (T1.setTop (mkF m 53 #[.val (.ref x0), .val (.int x1), .val (.long x2), .second, .val (.int (p4 + (1 : Int32))), .val (.long (own_sr x2 (7 * i))), .second] []))
    refine own_of (fun _ kk => XS.iload X1.here hx rfl (hb hby d1_53) rfl kk) ?_
    show own_Fin _ _ _ _ _ _ _ (T1.setTop (mkF m 55 #[.val (.ref x0), .val (.int x1), .val (.long x2), .second, .val (.int (p4 + (1 : Int32))), .val (.long (own_sr x2 (7 * i))), .second] [(.int (p4 + (1 : Int32)))]))
    exact own_retI X1 hx hlk e1 hret (hb hby d1_55) (by decide) (by decide) ⟨i, _, rfl, N1, ZW1, by omega, own_p1 hp (by omega), hcs, not_not_intro c14, A1.congr fun j _ => own_wlast a x2 f i j⟩
  | succ d ih =>
    intro i p4 T0 locs h0 X0 N0 Z0 e0 hm hp hcs A
    show own_Fin _ _ _ _ _ _ _ (T0.setTop (mkF m 6 #[.val (.ref x0), .val (.int x1), .val (.long x2), .second, .val (.int p4), .val (.long (own_sr x2 (7 * i))), .second] []))
    refine own_of (fun _ kk => XS.lload X0.here hx rfl (hb hby d1_6) rfl kk) ?_
    show own_Fin _ _ _ _ _ _ _ (T0.setTop (mkF m 8 #[.val (.ref x0), .val (.int x1), .val (.long x2), .second, .val (.int p4), .val (.long (own_sr x2 (7 * i))), .second] [(.long (own_sr x2 (7 * i)))]))
    refine own_of (fun _ kk => X0.ldc2Long hx hown (mvT hZ (hw _ (List.mem_of_getElem? (i := 5) rfl))) (g := (mkF m 8 #[.val (.ref x0), .val (.int x1), .val (.long x2), .second, .val (.int p4), .val (.long (own_sr x2 (7 * i))), .second] [(.long (own_sr x2 (7 * i)))])) rfl (hb hby d1_8) _ kk) ?_
    show own_Fin _ _ _ _ _ _ _ (T0.setTop (mkF m 11 #[.val (.ref x0), .val (.int x1), .val (.long x2), .second, .val (.int p4), .val (.long (own_sr x2 (7 * i))), .second] [(.long (-128 : Int64)), (.long (own_sr x2 (7 * i)))]))
    refine own_of (fun _ kk => XS.land X0.here hx rfl (hb hby d1_11) rfl kk) ?_
    show own_Fin _ _ _ _ _ _ _ (T0.setTop (mkF m 12 #[.val (.ref x0), .val (.int x1), .val (.long x2), .second, .val (.int p4), .val (.long (own_sr x2 (7 * i))), .second] [(.long ((own_sr x2 (7 * i)) &&& (-128 : Int64)))]))
    refine own_of (fun _ kk => XS.lconst X0.here hx rfl (hb hby d1_12) kk) ?_
    show own_Fin _ _ _ _ _ _ _ (T0.setTop (mkF m 13 #[.val (.ref x0), .val (.int x1), .val (.long x2), .second, .val (.int p4), .val (.long (own_sr x2 (7 * i))), .second] [(.long (0 : Int64)), (.long ((own_sr x2 (7 * i)) &&& (-128 : Int64)))]))
    refine own_of (fun _ kk => XS.lcmp X0.here hx rfl (hb hby d1_13) rfl kk) ?_
    show own_Fin _ _ _ _ _ _ _ (T0.setTop (mkF m 14 #[.val (.ref x0), .val (.int x1), .val (.long x2), .second, .val (.int p4), .val (.long (own_sr x2 (7 * i))), .second] [(.int (lcmpW ((own_sr x2 (7 * i)) &&& (-128 : Int64)) (0 : Int64)))]))
    by_cases c14 : ((own_sr x2 (7 * i)) &&& (-128 : Int64)) = (0 : Int64)
    · refine own_of (fun _ kk => XS.ifYes X0.here hx rfl (pc0 := 14) (pc' := 42) rfl (hb hby d1_14) rfl ((if0 _ _).trans (teq ((lw_eq _ _).mpr c14)).1) (by decide) (by decide) kk) ?_
      show own_Fin _ _ _ _ _ _ _ (T0.setTop (mkF m 42 #[.val (.ref x0), .val (.int x1), .val (.long x2), .second, .val (.int p4), .val (.long (own_sr x2 (7 * i))), .second] []))
      refine own_of (fun _ kk => XS.aloadN X0.here hx rfl (hb hby d1_42) rfl rfl kk) ?_
      show own_Fin _ _ _ _ _ _ _ (T0.setTop (mkF m 43 #[.val (.ref x0), .val (.int x1), .val (.long x2), .second, .val (.int p4), .val (.long (own_sr x2 (7 * i))), .second] [(.ref x0)]))
      refine own_of (fun _ kk => XS.iload X0.here hx rfl (hb hby d1_43) rfl kk) ?_
      show own_Fin _ _ _ _ _ _ _ (T0.setTop (mkF m 45 #[.val (.ref x0), .val (.int x1), .val (.long x2), .second, .val (.int p4), .val (.long (own_sr x2 (7 * i))), .second] [(.int p4), (.ref x0)]))
      refine own_of (fun _ kk => XS.iinc X0.here hx rfl (hb hby d1_45) rfl (l' := #[.val (.ref x0), .val (.int x1), .val (.long x2), .second, .val (.int (p4 + (1 : Int32))), .val (.long (own_sr x2 (7 * i))), .second]) rfl kk) ?_
      show own_Fin _ _ _ _ _ _ _ (T0.setTop (mkF m 48 #[.val (.ref x0), .val (.int x1), .val (.long x2), .second, .val (.int (p4 + (1 : Int32))), .val (.long (own_sr x2 (7 * i))), .second] [(.int p4), (.ref x0)]))
      refine own_of (fun _ kk => XS.lload X0.here hx rfl (hb hby d1_48) rfl kk) ?_
      show own_Fin _ _ _ _ _ _ _ (T0.setTop (mkF m 50 #[.val (.ref x0), .val (.int x1), .val (.long x2), .second, .val (.int (p4 + (1 : Int32))), .val (.long (own_sr x2 (7 * i))), .second] [(.long (own_sr x2 (7 * i))), (.int p4), (.ref x0)]))
      refine own_of (fun _ kk => XS.l2i X0.here hx rfl (hb hby d1_50) rfl kk) ?_
      show own_Fin _ _ _ _ _ _ _ (T0.setTop (mkF m 51 #[.val (.ref x0), .val (.int x1), .val (.long x2), .second, .val (.int (p4 + (1 : Int32))), .val (.long (own_sr x2 (7 * i))), .second] [(.int (own_sr x2 (7 * i)).toInt32), (.int p4), (.ref x0)]))
      refine own_of (fun _ kk => XS.i2b X0.here hx rfl (hb hby d1_51) rfl kk) ?_
      show own_Fin _ _ _ _ _ _ _ (T0.setTop (mkF m 52 #[.val (.ref x0), .val (.int x1), .val (.long x2), .second, .val (.int (p4 + (1 : Int32))), .val (.long (own_sr x2 (7 * i))), .second] [(.int (own_i2b (own_sr x2 (7 * i)).toInt32)), (.int p4), (.ref x0)]))
      refine own_bastore X0 hx hZ e0 A N0 ge (i := (a + i)) hp (by omega) (hb hby d1_52) ?_
      intro T1 h1 l1 X1 N1 e1 W1 A1
      replace A1 : own_Arf Z h1 x0 .byte n (fun j => if j = (a + i) then (.int (own_i2b (own_i2b (own_sr x2 (7 * i)).toInt32))) else (fun j => .int (own_w a x2 f i j)) j) := A1
      have ZW1 : n0 ≤ h1.size := by rw [Wr.size W1]; exact Z0
      show own_Fin _ _ _ _ _ _ _ (T1.setTop (mkF m 53 #[.val (.ref x0), .val (.int x1), .val (.long x2), .second, .val (.int (p4 + (1 : Int32))), .val (.long (own_sr x2 (7 * i))), .second] []))
      refine own_of (fun _ kk => XS.iload X1.here hx rfl (hb hby d1_53) rfl kk) ?_
      show own_Fin _ _ _ _ _ _ _ (T1.setTop (mkF m 55 #[.val (.ref x0), .val (.int x1), .val (.long x2), .second, .val (.int (p4 + (1 : Int32))), .val (.long (own_sr x2 (7 * i))), .second] [(.int (p4 + (1 : Int32)))]))
      exact own_retI X1 hx hlk e1 hret (hb hby d1_55) (by decide) (by decide) ⟨i, _, rfl, N1, ZW1, by omega, own_p1 hp (by omega), hcs, not_not_intro c14, A1.congr fun j _ => own_wlast a x2 f i j⟩
    · refine own_of (fun _ kk => XS.ifNo X0.here hx rfl (hb hby d1_14) rfl ((if0 _ _).trans (feq (mt (lw_eq _ _).mp c14)).1) kk) ?_
      show own_Fin _ _ _ _ _ _ _ (T0.setTop (mkF m 17 #[.val (.ref x0), .val (.int x1), .val (.long x2), .second, .val (.int p4), .val (.long (own_sr x2 (7 * i))), .second] []))
      refine own_of (fun _ kk => XS.aloadN X0.here hx rfl (hb hby d1_17) rfl rfl kk) ?_
      show own_Fin _ _ _ _ _ _ _ (T0.setTop (mkF m 18 #[.val (.ref x0), .val (.int x1), .val (.long x2), .second, .val (.int p4), .val (.long (own_sr x2 (7 * i))), .second] [(.ref x0)]))
      refine own_of (fun _ kk => XS.iload X0.here hx rfl (hb hby d1_18) rfl kk) ?_
      show own_Fin _ _ _ _ _ _ _ (T0.setTop (mkF m 20 #[.val (.ref x0), .val (.int x1), .val (.long x2), .second, .val (.int p4), .val (.long (own_sr x2 (7 * i))), .second] [(.int p4), (.ref x0)]))
      refine own_of (fun _ kk => XS.iinc X0.here hx rfl (hb hby d1_20) rfl (l' := #[.val (.ref x0), .val (.int x1), .val (.long x2), .second, .val (.int (p4 + (1 : Int32))), .val (.long (own_sr x2 (7 * i))), .second]) rfl kk) ?_
      show own_Fin _ _ _ _ _ _ _ (T0.setTop (mkF m 23 #[.val (.ref x0), .val (.int x1), .val (.long x2), .second, .val (.int (p4 + (1 : Int32))), .val (.long (own_sr x2 (7 * i))), .second] [(.int p4), (.ref x0)]))
      refine own_of (fun _ kk => XS.lload X0.here hx rfl (hb hby d1_23) rfl kk) ?_
      show own_Fin _ _ _ _ _ _ _ (T0.setTop (mkF m 25 #[.val (.ref x0), .val (.int x1), .val (.long x2), .second, .val (.int (p4 + (1 : Int32))), .val (.long (own_sr x2 (7 * i))), .second] [(.long (own_sr x2 (7 * i))), (.int p4), (.ref x0)]))
      refine own_of (fun _ kk => X0.ldc2Long hx hown (mvT hZ (hw _ (List.mem_of_getElem? (i := 16) rfl))) (g := (mkF m 25 #[.val (.ref x0), .val (.int x1), .val (.long x2), .second, .val (.int (p4 + (1 : Int32))), .val (.long (own_sr x2 (7 * i))), .second] [(.long (own_sr x2 (7 * i))), (.int p4), (.ref x0)])) rfl (hb hby d1_25) _ kk) ?_
      show own_Fin _ _ _ _ _ _ _ (T0.setTop (mkF m 28 #[.val (.ref x0), .val (.int x1), .val (.long x2), .second, .val (.int (p4 + (1 : Int32))), .val (.long (own_sr x2 (7 * i))), .second] [(.long (128 : Int64)), (.long (own_sr x2 (7 * i))), (.int p4), (.ref x0)]))
      refine own_of (fun _ kk => XS.lor X0.here hx rfl (hb hby d1_28) rfl kk) ?_
      show own_Fin _ _ _ _ _ _ _ (T0.setTop (mkF m 29 #[.val (.ref x0), .val (.int x1), .val (.long x2), .second, .val (.int (p4 + (1 : Int32))), .val (.long (own_sr x2 (7 * i))), .second] [(.long ((own_sr x2 (7 * i)) ||| (128 : Int64))), (.int p4), (.ref x0)]))
      refine own_of (fun _ kk => XS.l2i X0.here hx rfl (hb hby d1_29) rfl kk) ?_
      show own_Fin _ _ _ _ _ _ _ (T0.setTop (mkF m 30 #[.val (.ref x0), .val (.int x1), .val (.long x2), .second, .val (.int (p4 + (1 : Int32))), .val (.long (own_sr x2 (7 * i))), .second] [(.int ((own_sr x2 (7 * i)) ||| (128 : Int64)).toInt32), (.int p4), (.ref x0)]))
      refine own_of (fun _ kk => XS.i2b X0.here hx rfl (hb hby d1_30) rfl kk) ?_
      show own_Fin _ _ _ _ _ _ _ (T0.setTop (mkF m 31 #[.val (.ref x0), .val (.int x1), .val (.long x2), .second, .val (.int (p4 + (1 : Int32))), .val (.long (own_sr x2 (7 * i))), .second] [(.int (own_i2b ((own_sr x2 (7 * i)) ||| (128 : Int64)).toInt32)), (.int p4), (.ref x0)]))
      refine own_bastore X0 hx hZ e0 A N0 ge (i := (a + i)) hp (by omega) (hb hby d1_31) ?_
      intro T2 h2 l2 X2 N2 e2 W2 A2
      replace A2 : own_Arf Z h2 x0 .byte n (fun j => if j = (a + i) then (.int (own_i2b (own_i2b ((own_sr x2 (7 * i)) ||| (128 : Int64)).toInt32))) else (fun j => .int (own_w a x2 f i j)) j) := A2
      have ZW2 : n0 ≤ h2.size := by rw [Wr.size W2]; exact Z0
      show own_Fin _ _ _ _ _ _ _ (T2.setTop (mkF m 32 #[.val (.ref x0), .val (.int x1), .val (.long x2), .second, .val (.int (p4 + (1 : Int32))), .val (.long (own_sr x2 (7 * i))), .second] []))
      refine own_of (fun _ kk => XS.lload X2.here hx rfl (hb hby d1_32) rfl kk) ?_
      show own_Fin _ _ _ _ _ _ _ (T2.setTop (mkF m 34 #[.val (.ref x0), .val (.int x1), .val (.long x2), .second, .val (.int (p4 + (1 : Int32))), .val (.long (own_sr x2 (7 * i))), .second] [(.long (own_sr x2 (7 * i)))]))
      refine own_of (fun _ kk => XS.bipush X2.here hx rfl (hb hby d1_34) kk) ?_
      show own_Fin _ _ _ _ _ _ _ (T2.setTop (mkF m 36 #[.val (.ref x0), .val (.int x1), .val (.long x2), .second, .val (.int (p4 + (1 : Int32))), .val (.long (own_sr x2 (7 * i))), .second] [(.int (7 : Int32)), (.long (own_sr x2 (7 * i)))]))
      refine own_of (fun _ kk => XS.lushr X2.here hx rfl (hb hby d1_36) rfl kk) ?_
      show own_Fin _ _ _ _ _ _ _ (T2.setTop (mkF m 37 #[.val (.ref x0), .val (.int x1), .val (.long x2), .second, .val (.int (p4 + (1 : Int32))), .val (.long (own_sr x2 (7 * i))), .second] [(.long (own_lushr (own_sr x2 (7 * i)) (7 : Int32)))]))
      refine own_of (fun _ kk => XS.lstore X2.here hx rfl (hb hby d1_37) rfl (l' := #[.val (.ref x0), .val (.int x1), .val (.long x2), .second, .val (.int (p4 + (1 : Int32))), .val (.long (own_lushr (own_sr x2 (7 * i)) (7 : Int32))), .second]) rfl kk) ?_
      show own_Fin _ _ _ _ _ _ _ (T2.setTop (mkF m 39 #[.val (.ref x0), .val (.int x1), .val (.long x2), .second, .val (.int (p4 + (1 : Int32))), .val (.long (own_lushr (own_sr x2 (7 * i)) (7 : Int32))), .second] []))
      refine own_of (fun _ kk => XS.goto X2.here hx rfl (pc0 := 39) (pc' := 6) rfl (hb hby d1_39) (by decide) (by decide) kk) ?_
      show own_Fin _ _ _ _ _ _ _ (T2.setTop (mkF m 6 #[.val (.ref x0), .val (.int x1), .val (.long x2), .second, .val (.int (p4 + (1 : Int32))), .val (.long (own_lushr (own_sr x2 (7 * i)) (7 : Int32))), .second] []))
      rw [own_turn x2 i]
      exact ih (i + 1) (p4 + 1) T2 _ h2 X2 N2 ZW2 e2 (by omega) (own_p1 hp (by omega)) (fun t ht => by rcases Nat.lt_succ_iff_lt_or_eq.mp ht with h | h; exact hcs t h; subst h; exact c14) (A2.congr fun j _ => own_wstep a x2 f i j)
set_option maxRecDepth 65536 in
set_option maxHeartbeats 40000000 in
theorem met1 (l : Launch) (Z : State) (a0 : Array Value) (hw : ∀ d ∈ tables_1, d.before a0 Z = true) (x0 : Addr) (x1 : Int32) (x2 : Int64) (a : Nat) (n : Nat) (f : Nat → Int32) (h0 : Heap) (n0 : Nat) (Z0 : n0 ≤ h0.size) (ge : n0 ≤ x0) (han : a + 10 ≤ n) (hn : n ≤ 16) (ha : x1.toInt = (a : Int)) (A : own_Arf Z h0 x0 .byte n (fun j => .int (f j))) :
    own_Met l Z (⟨"com/example/dosefold/dosefold/sort/Encoder", "putBits", "([BIJ)I"⟩ : MethodName) prog_200_method_11_code 7 (some .int) { frames := 0, cells := 0, slots := 0, locals := 0 } #[(.ref x0), (.int x1), (.long x2)] h0 (fun v h L => ∃ (k : Nat) (z : Int32), v = some (.int z) ∧ Fr n0 L ∧ n0 ≤ h.size ∧ k ≤ 9 ∧ z.toInt = ((a + (k + 1) : Nat) : Int) ∧ (∀ t, t < k → own_cont x2 t) ∧ ¬ own_cont x2 k ∧ own_Arf Z h x0 .byte n (fun j => .int (own_w2 a x2 f k j))) := by
  refine own_met pn_1 ?_
  intro p e s m below meth c T0 X0 hx hby hml hown hZ e0 hret hlk hnm
  rw [ef_1 m x0 x1 x2]
  have N0 := Fr.nil n0
  show own_Fin _ _ _ _ _ _ _ (T0.setTop (mkF m 0 #[.val (.ref x0), .val (.int x1), .val (.long x2), .second, .unset, .unset, .unset] []))
  refine own_of (fun _ kk => XS.iloadN X0.here hx rfl (hb hby d1_0) rfl kk) ?_
  show own_Fin _ _ _ _ _ _ _ (T0.setTop (mkF m 1 #[.val (.ref x0), .val (.int x1), .val (.long x2), .second, .unset, .unset, .unset] [(.int x1)]))
  refine own_of (fun _ kk => XS.istore X0.here hx rfl (hb hby d1_1) rfl (l' := #[.val (.ref x0), .val (.int x1), .val (.long x2), .second, .val (.int x1), .unset, .unset]) rfl kk) ?_
  show own_Fin _ _ _ _ _ _ _ (T0.setTop (mkF m 3 #[.val (.ref x0), .val (.int x1), .val (.long x2), .second, .val (.int x1), .unset, .unset] []))
  refine own_of (fun _ kk => XS.lloadN X0.here hx rfl (hb hby d1_3) rfl kk) ?_
  show own_Fin _ _ _ _ _ _ _ (T0.setTop (mkF m 4 #[.val (.ref x0), .val (.int x1), .val (.long x2), .second, .val (.int x1), .unset, .unset] [(.long x2)]))
  refine own_of (fun _ kk => XS.lstore X0.here hx rfl (hb hby d1_4) rfl (l' := #[.val (.ref x0), .val (.int x1), .val (.long x2), .second, .val (.int x1), .val (.long x2), .second]) rfl kk) ?_
  show own_Fin _ _ _ _ _ _ _ (T0.setTop (mkF m 6 #[.val (.ref x0), .val (.int x1), .val (.long x2), .second, .val (.int x1), .val (.long x2), .second] []))
  have hs0 : own_sr x2 (7 * 0) = x2 := own_inj (by rw [own_sr_nat]; simp)
  rw [show #[Slot.val (.ref x0), .val (.int x1), .val (.long x2), .second, .val (.int x1), .val (.long x2), .second] = #[Slot.val (.ref x0), .val (.int x1), .val (.long x2), .second, .val (.int x1), .val (.long (own_sr x2 (7 * 0))), .second] by rw [hs0]]
  exact own_loop1 l Z a0 hw x0 x1 x2 a n f n0 hx hby hml hown hZ hret hlk ge han hn 9 0 x1 T0 _ h0 X0 N0 Z0 e0 (by omega) (by simpa using ha) (fun t ht => absurd ht (Nat.not_lt_zero t)) (A.congr fun j _ => congrArg Value.int (own_w0 a x2 f j))
def own_m4_62a (x1 : Int32) (x2 : Int32) (x5 : Int32) (x4 : Int32) (x3 : Int64) : Int32 := (if x1 < x2 then x5 else (if x1 < (x2 + x4) then (if (x1 - x2) < (x4 - (1 : Int32)) then (own_i2b ((own_lushr x3 ((7 : Int32) * (x1 - x2))) ||| (128 : Int64)).toInt32) else (own_i2b (own_lushr x3 ((7 : Int32) * (x1 - x2))).toInt32)) else x5))
set_option maxRecDepth 65536 in
set_option maxHeartbeats 40000000 in
theorem met4 (l : Launch) (Z : State) (a0 : Array Value) (hw : ∀ d ∈ tables_1, d.before a0 Z = true) (x0 : Addr) (x1 : Int32) (x2 : Int32) (x3 : Int64) (x4 : Int32) (x5 : Int32) (n : Nat) (f : Nat → Int32) (i : Nat) (r : Int32) (h0 : Heap) (n0 : Nat) (Z0 : n0 ≤ h0.size) (A : own_Arf Z h0 x0 .byte n (fun j => .int (f j))) (hj : x1.toInt = (i : Int)) (hi : i < n) (hv : f i = r) (hok : r = (own_m4_62a x1 x2 x5 x4 x3)) :
    own_Met l Z (⟨"com/example/dosefold/dosefold/sort/EncoderPutBitsPinLaw", "ok", "([BIIJIB)Z"⟩ : MethodName) method_5_code 11 (some .boolean) { frames := 0, cells := 0, slots := 0, locals := 0 } #[(.ref x0), (.int x1), (.int x2), (.long x3), (.int x4), (.int x5)] h0 (fun v h L => own_Pure (.int 1) h0 v h L) := by
  refine own_met pn_4 ?_
  intro p e s m below meth c T0 X0 hx hby hml hown hZ e0 hret hlk hnm
  rw [ef_4 m x0 x1 x2 x3 x4 x5]
  have N0 := Fr.nil n0
  show own_Fin _ _ _ _ _ _ _ (T0.setTop (mkF m 0 #[.val (.ref x0), .val (.int x1), .val (.int x2), .val (.long x3), .second, .val (.int x4), .val (.int x5), .unset, .unset, .unset, .unset] []))
  refine own_of (fun _ kk => XS.iloadN X0.here hx rfl (hb hby d4_0) rfl kk) ?_
  show own_Fin _ _ _ _ _ _ _ (T0.setTop (mkF m 1 #[.val (.ref x0), .val (.int x1), .val (.int x2), .val (.long x3), .second, .val (.int x4), .val (.int x5), .unset, .unset, .unset, .unset] [(.int x1)]))
  refine own_of (fun _ kk => XS.iloadN X0.here hx rfl (hb hby d4_1) rfl kk) ?_
  show own_Fin _ _ _ _ _ _ _ (T0.setTop (mkF m 2 #[.val (.ref x0), .val (.int x1), .val (.int x2), .val (.long x3), .second, .val (.int x4), .val (.int x5), .unset, .unset, .unset, .unset] [(.int x2), (.int x1)]))
  suffices k1 : own_Fin _ _ _ _ _ _ _ (T0.setTop (mkF m 62 #[.val (.ref x0), .val (.int x1), .val (.int x2), .val (.long x3), .second, .val (.int x4), .val (.int x5), .val (.int (own_m4_62a x1 x2 x5 x4 x3)), (if x1 < x2 then (.unset : Slot) else (if x1 < (x2 + x4) then (.val (.int (x1 - x2)) : Slot) else (.unset : Slot))), (if x1 < x2 then (.unset : Slot) else (if x1 < (x2 + x4) then (.val (.long (own_lushr x3 ((7 : Int32) * (x1 - x2)))) : Slot) else (.unset : Slot))), (if x1 < x2 then (.unset : Slot) else (if x1 < (x2 + x4) then (.second : Slot) else (.unset : Slot)))] [])) by
    by_cases c2 : x1 < x2
    · refine own_of (fun _ kk => XS.icmpYes X0.here hx rfl (pc0 := 2) (pc' := 13) rfl (hb hby d4_2) rfl (tlt c2).1 (by decide) (by decide) kk) ?_
      show own_Fin _ _ _ _ _ _ _ (T0.setTop (mkF m 13 #[.val (.ref x0), .val (.int x1), .val (.int x2), .val (.long x3), .second, .val (.int x4), .val (.int x5), .unset, .unset, .unset, .unset] []))
      refine own_of (fun _ kk => XS.iload X0.here hx rfl (hb hby d4_13) rfl kk) ?_
      show own_Fin _ _ _ _ _ _ _ (T0.setTop (mkF m 15 #[.val (.ref x0), .val (.int x1), .val (.int x2), .val (.long x3), .second, .val (.int x4), .val (.int x5), .unset, .unset, .unset, .unset] [(.int x5)]))
      refine own_of (fun _ kk => XS.istore X0.here hx rfl (hb hby d4_15) rfl (l' := #[.val (.ref x0), .val (.int x1), .val (.int x2), .val (.long x3), .second, .val (.int x4), .val (.int x5), .val (.int x5), .unset, .unset, .unset]) rfl kk) ?_
      show own_Fin _ _ _ _ _ _ _ (T0.setTop (mkF m 17 #[.val (.ref x0), .val (.int x1), .val (.int x2), .val (.long x3), .second, .val (.int x4), .val (.int x5), .val (.int x5), .unset, .unset, .unset] []))
      refine own_of (fun _ kk => XS.goto X0.here hx rfl (pc0 := 17) (pc' := 62) rfl (hb hby d4_17) (by decide) (by decide) kk) ?_
      show own_Fin _ _ _ _ _ _ _ (T0.setTop (mkF m 62 #[.val (.ref x0), .val (.int x1), .val (.int x2), .val (.long x3), .second, .val (.int x4), .val (.int x5), .val (.int x5), .unset, .unset, .unset] []))
      simp only [own_m4_62a, if_pos c2] at k1 ⊢
      exact k1
    · refine own_of (fun _ kk => XS.icmpNo X0.here hx rfl (hb hby d4_2) rfl (flt c2).1 kk) ?_
      show own_Fin _ _ _ _ _ _ _ (T0.setTop (mkF m 5 #[.val (.ref x0), .val (.int x1), .val (.int x2), .val (.long x3), .second, .val (.int x4), .val (.int x5), .unset, .unset, .unset, .unset] []))
      refine own_of (fun _ kk => XS.iloadN X0.here hx rfl (hb hby d4_5) rfl kk) ?_
      show own_Fin _ _ _ _ _ _ _ (T0.setTop (mkF m 6 #[.val (.ref x0), .val (.int x1), .val (.int x2), .val (.long x3), .second, .val (.int x4), .val (.int x5), .unset, .unset, .unset, .unset] [(.int x1)]))
      refine own_of (fun _ kk => XS.iloadN X0.here hx rfl (hb hby d4_6) rfl kk) ?_
      show own_Fin _ _ _ _ _ _ _ (T0.setTop (mkF m 7 #[.val (.ref x0), .val (.int x1), .val (.int x2), .val (.long x3), .second, .val (.int x4), .val (.int x5), .unset, .unset, .unset, .unset] [(.int x2), (.int x1)]))
      refine own_of (fun _ kk => XS.iload X0.here hx rfl (hb hby d4_7) rfl kk) ?_
      show own_Fin _ _ _ _ _ _ _ (T0.setTop (mkF m 9 #[.val (.ref x0), .val (.int x1), .val (.int x2), .val (.long x3), .second, .val (.int x4), .val (.int x5), .unset, .unset, .unset, .unset] [(.int x4), (.int x2), (.int x1)]))
      refine own_of (fun _ kk => XS.iadd X0.here hx rfl (hb hby d4_9) rfl kk) ?_
      show own_Fin _ _ _ _ _ _ _ (T0.setTop (mkF m 10 #[.val (.ref x0), .val (.int x1), .val (.int x2), .val (.long x3), .second, .val (.int x4), .val (.int x5), .unset, .unset, .unset, .unset] [(.int (x2 + x4)), (.int x1)]))
      by_cases c10 : x1 < (x2 + x4)
      · refine own_of (fun _ kk => XS.icmpYes X0.here hx rfl (pc0 := 10) (pc' := 20) rfl (hb hby d4_10) rfl (tlt c10).1 (by decide) (by decide) kk) ?_
        show own_Fin _ _ _ _ _ _ _ (T0.setTop (mkF m 20 #[.val (.ref x0), .val (.int x1), .val (.int x2), .val (.long x3), .second, .val (.int x4), .val (.int x5), .unset, .unset, .unset, .unset] []))
        refine own_of (fun _ kk => XS.iloadN X0.here hx rfl (hb hby d4_20) rfl kk) ?_
        show own_Fin _ _ _ _ _ _ _ (T0.setTop (mkF m 21 #[.val (.ref x0), .val (.int x1), .val (.int x2), .val (.long x3), .second, .val (.int x4), .val (.int x5), .unset, .unset, .unset, .unset] [(.int x1)]))
        refine own_of (fun _ kk => XS.iloadN X0.here hx rfl (hb hby d4_21) rfl kk) ?_
        show own_Fin _ _ _ _ _ _ _ (T0.setTop (mkF m 22 #[.val (.ref x0), .val (.int x1), .val (.int x2), .val (.long x3), .second, .val (.int x4), .val (.int x5), .unset, .unset, .unset, .unset] [(.int x2), (.int x1)]))
        refine own_of (fun _ kk => XS.isub X0.here hx rfl (hb hby d4_22) rfl kk) ?_
        show own_Fin _ _ _ _ _ _ _ (T0.setTop (mkF m 23 #[.val (.ref x0), .val (.int x1), .val (.int x2), .val (.long x3), .second, .val (.int x4), .val (.int x5), .unset, .unset, .unset, .unset] [(.int (x1 - x2))]))
        refine own_of (fun _ kk => XS.istore X0.here hx rfl (hb hby d4_23) rfl (l' := #[.val (.ref x0), .val (.int x1), .val (.int x2), .val (.long x3), .second, .val (.int x4), .val (.int x5), .unset, .val (.int (x1 - x2)), .unset, .unset]) rfl kk) ?_
        show own_Fin _ _ _ _ _ _ _ (T0.setTop (mkF m 25 #[.val (.ref x0), .val (.int x1), .val (.int x2), .val (.long x3), .second, .val (.int x4), .val (.int x5), .unset, .val (.int (x1 - x2)), .unset, .unset] []))
        refine own_of (fun _ kk => XS.lloadN X0.here hx rfl (hb hby d4_25) rfl kk) ?_
        show own_Fin _ _ _ _ _ _ _ (T0.setTop (mkF m 26 #[.val (.ref x0), .val (.int x1), .val (.int x2), .val (.long x3), .second, .val (.int x4), .val (.int x5), .unset, .val (.int (x1 - x2)), .unset, .unset] [(.long x3)]))
        refine own_of (fun _ kk => XS.bipush X0.here hx rfl (hb hby d4_26) kk) ?_
        show own_Fin _ _ _ _ _ _ _ (T0.setTop (mkF m 28 #[.val (.ref x0), .val (.int x1), .val (.int x2), .val (.long x3), .second, .val (.int x4), .val (.int x5), .unset, .val (.int (x1 - x2)), .unset, .unset] [(.int (7 : Int32)), (.long x3)]))
        refine own_of (fun _ kk => XS.iload X0.here hx rfl (hb hby d4_28) rfl kk) ?_
        show own_Fin _ _ _ _ _ _ _ (T0.setTop (mkF m 30 #[.val (.ref x0), .val (.int x1), .val (.int x2), .val (.long x3), .second, .val (.int x4), .val (.int x5), .unset, .val (.int (x1 - x2)), .unset, .unset] [(.int (x1 - x2)), (.int (7 : Int32)), (.long x3)]))
        refine own_of (fun _ kk => XS.imul X0.here hx rfl (hb hby d4_30) rfl kk) ?_
        show own_Fin _ _ _ _ _ _ _ (T0.setTop (mkF m 31 #[.val (.ref x0), .val (.int x1), .val (.int x2), .val (.long x3), .second, .val (.int x4), .val (.int x5), .unset, .val (.int (x1 - x2)), .unset, .unset] [(.int ((7 : Int32) * (x1 - x2))), (.long x3)]))
        refine own_of (fun _ kk => XS.lushr X0.here hx rfl (hb hby d4_31) rfl kk) ?_
        show own_Fin _ _ _ _ _ _ _ (T0.setTop (mkF m 32 #[.val (.ref x0), .val (.int x1), .val (.int x2), .val (.long x3), .second, .val (.int x4), .val (.int x5), .unset, .val (.int (x1 - x2)), .unset, .unset] [(.long (own_lushr x3 ((7 : Int32) * (x1 - x2))))]))
        refine own_of (fun _ kk => XS.lstore X0.here hx rfl (hb hby d4_32) rfl (l' := #[.val (.ref x0), .val (.int x1), .val (.int x2), .val (.long x3), .second, .val (.int x4), .val (.int x5), .unset, .val (.int (x1 - x2)), .val (.long (own_lushr x3 ((7 : Int32) * (x1 - x2)))), .second]) rfl kk) ?_
        show own_Fin _ _ _ _ _ _ _ (T0.setTop (mkF m 34 #[.val (.ref x0), .val (.int x1), .val (.int x2), .val (.long x3), .second, .val (.int x4), .val (.int x5), .unset, .val (.int (x1 - x2)), .val (.long (own_lushr x3 ((7 : Int32) * (x1 - x2)))), .second] []))
        refine own_of (fun _ kk => XS.iload X0.here hx rfl (hb hby d4_34) rfl kk) ?_
        show own_Fin _ _ _ _ _ _ _ (T0.setTop (mkF m 36 #[.val (.ref x0), .val (.int x1), .val (.int x2), .val (.long x3), .second, .val (.int x4), .val (.int x5), .unset, .val (.int (x1 - x2)), .val (.long (own_lushr x3 ((7 : Int32) * (x1 - x2)))), .second] [(.int (x1 - x2))]))
        refine own_of (fun _ kk => XS.iload X0.here hx rfl (hb hby d4_36) rfl kk) ?_
        show own_Fin _ _ _ _ _ _ _ (T0.setTop (mkF m 38 #[.val (.ref x0), .val (.int x1), .val (.int x2), .val (.long x3), .second, .val (.int x4), .val (.int x5), .unset, .val (.int (x1 - x2)), .val (.long (own_lushr x3 ((7 : Int32) * (x1 - x2)))), .second] [(.int x4), (.int (x1 - x2))]))
        refine own_of (fun _ kk => XS.iconst X0.here hx rfl (hb hby d4_38) kk) ?_
        show own_Fin _ _ _ _ _ _ _ (T0.setTop (mkF m 39 #[.val (.ref x0), .val (.int x1), .val (.int x2), .val (.long x3), .second, .val (.int x4), .val (.int x5), .unset, .val (.int (x1 - x2)), .val (.long (own_lushr x3 ((7 : Int32) * (x1 - x2)))), .second] [(.int (1 : Int32)), (.int x4), (.int (x1 - x2))]))
        refine own_of (fun _ kk => XS.isub X0.here hx rfl (hb hby d4_39) rfl kk) ?_
        show own_Fin _ _ _ _ _ _ _ (T0.setTop (mkF m 40 #[.val (.ref x0), .val (.int x1), .val (.int x2), .val (.long x3), .second, .val (.int x4), .val (.int x5), .unset, .val (.int (x1 - x2)), .val (.long (own_lushr x3 ((7 : Int32) * (x1 - x2)))), .second] [(.int (x4 - (1 : Int32))), (.int (x1 - x2))]))
        by_cases c40 : (x1 - x2) < (x4 - (1 : Int32))
        · refine own_of (fun _ kk => XS.icmpNo X0.here hx rfl (hb hby d4_40) rfl (tlt c40).2.1 kk) ?_
          show own_Fin _ _ _ _ _ _ _ (T0.setTop (mkF m 43 #[.val (.ref x0), .val (.int x1), .val (.int x2), .val (.long x3), .second, .val (.int x4), .val (.int x5), .unset, .val (.int (x1 - x2)), .val (.long (own_lushr x3 ((7 : Int32) * (x1 - x2)))), .second] []))
          refine own_of (fun _ kk => XS.lload X0.here hx rfl (hb hby d4_43) rfl kk) ?_
          show own_Fin _ _ _ _ _ _ _ (T0.setTop (mkF m 45 #[.val (.ref x0), .val (.int x1), .val (.int x2), .val (.long x3), .second, .val (.int x4), .val (.int x5), .unset, .val (.int (x1 - x2)), .val (.long (own_lushr x3 ((7 : Int32) * (x1 - x2)))), .second] [(.long (own_lushr x3 ((7 : Int32) * (x1 - x2))))]))
          refine own_of (fun _ kk => X0.ldc2Long hx hown (mvT hZ (hw _ (List.mem_of_getElem? (i := 17) rfl))) (g := (mkF m 45 #[.val (.ref x0), .val (.int x1), .val (.int x2), .val (.long x3), .second, .val (.int x4), .val (.int x5), .unset, .val (.int (x1 - x2)), .val (.long (own_lushr x3 ((7 : Int32) * (x1 - x2)))), .second] [(.long (own_lushr x3 ((7 : Int32) * (x1 - x2))))])) rfl (hb hby d4_45) _ kk) ?_
          show own_Fin _ _ _ _ _ _ _ (T0.setTop (mkF m 48 #[.val (.ref x0), .val (.int x1), .val (.int x2), .val (.long x3), .second, .val (.int x4), .val (.int x5), .unset, .val (.int (x1 - x2)), .val (.long (own_lushr x3 ((7 : Int32) * (x1 - x2)))), .second] [(.long (128 : Int64)), (.long (own_lushr x3 ((7 : Int32) * (x1 - x2))))]))
          refine own_of (fun _ kk => XS.lor X0.here hx rfl (hb hby d4_48) rfl kk) ?_
          show own_Fin _ _ _ _ _ _ _ (T0.setTop (mkF m 49 #[.val (.ref x0), .val (.int x1), .val (.int x2), .val (.long x3), .second, .val (.int x4), .val (.int x5), .unset, .val (.int (x1 - x2)), .val (.long (own_lushr x3 ((7 : Int32) * (x1 - x2)))), .second] [(.long ((own_lushr x3 ((7 : Int32) * (x1 - x2))) ||| (128 : Int64)))]))
          refine own_of (fun _ kk => XS.l2i X0.here hx rfl (hb hby d4_49) rfl kk) ?_
          show own_Fin _ _ _ _ _ _ _ (T0.setTop (mkF m 50 #[.val (.ref x0), .val (.int x1), .val (.int x2), .val (.long x3), .second, .val (.int x4), .val (.int x5), .unset, .val (.int (x1 - x2)), .val (.long (own_lushr x3 ((7 : Int32) * (x1 - x2)))), .second] [(.int ((own_lushr x3 ((7 : Int32) * (x1 - x2))) ||| (128 : Int64)).toInt32)]))
          refine own_of (fun _ kk => XS.i2b X0.here hx rfl (hb hby d4_50) rfl kk) ?_
          show own_Fin _ _ _ _ _ _ _ (T0.setTop (mkF m 51 #[.val (.ref x0), .val (.int x1), .val (.int x2), .val (.long x3), .second, .val (.int x4), .val (.int x5), .unset, .val (.int (x1 - x2)), .val (.long (own_lushr x3 ((7 : Int32) * (x1 - x2)))), .second] [(.int (own_i2b ((own_lushr x3 ((7 : Int32) * (x1 - x2))) ||| (128 : Int64)).toInt32))]))
          refine own_of (fun _ kk => XS.istore X0.here hx rfl (hb hby d4_51) rfl (l' := #[.val (.ref x0), .val (.int x1), .val (.int x2), .val (.long x3), .second, .val (.int x4), .val (.int x5), .val (.int (own_i2b ((own_lushr x3 ((7 : Int32) * (x1 - x2))) ||| (128 : Int64)).toInt32)), .val (.int (x1 - x2)), .val (.long (own_lushr x3 ((7 : Int32) * (x1 - x2)))), .second]) rfl kk) ?_
          show own_Fin _ _ _ _ _ _ _ (T0.setTop (mkF m 53 #[.val (.ref x0), .val (.int x1), .val (.int x2), .val (.long x3), .second, .val (.int x4), .val (.int x5), .val (.int (own_i2b ((own_lushr x3 ((7 : Int32) * (x1 - x2))) ||| (128 : Int64)).toInt32)), .val (.int (x1 - x2)), .val (.long (own_lushr x3 ((7 : Int32) * (x1 - x2)))), .second] []))
          refine own_of (fun _ kk => XS.goto X0.here hx rfl (pc0 := 53) (pc' := 62) rfl (hb hby d4_53) (by decide) (by decide) kk) ?_
          show own_Fin _ _ _ _ _ _ _ (T0.setTop (mkF m 62 #[.val (.ref x0), .val (.int x1), .val (.int x2), .val (.long x3), .second, .val (.int x4), .val (.int x5), .val (.int (own_i2b ((own_lushr x3 ((7 : Int32) * (x1 - x2))) ||| (128 : Int64)).toInt32)), .val (.int (x1 - x2)), .val (.long (own_lushr x3 ((7 : Int32) * (x1 - x2)))), .second] []))
          simp only [own_m4_62a, if_neg c2, if_pos c10, if_pos c40] at k1 ⊢
          exact k1
        · refine own_of (fun _ kk => XS.icmpYes X0.here hx rfl (pc0 := 40) (pc' := 56) rfl (hb hby d4_40) rfl (flt c40).2.1 (by decide) (by decide) kk) ?_
          show own_Fin _ _ _ _ _ _ _ (T0.setTop (mkF m 56 #[.val (.ref x0), .val (.int x1), .val (.int x2), .val (.long x3), .second, .val (.int x4), .val (.int x5), .unset, .val (.int (x1 - x2)), .val (.long (own_lushr x3 ((7 : Int32) * (x1 - x2)))), .second] []))
          refine own_of (fun _ kk => XS.lload X0.here hx rfl (hb hby d4_56) rfl kk) ?_
          show own_Fin _ _ _ _ _ _ _ (T0.setTop (mkF m 58 #[.val (.ref x0), .val (.int x1), .val (.int x2), .val (.long x3), .second, .val (.int x4), .val (.int x5), .unset, .val (.int (x1 - x2)), .val (.long (own_lushr x3 ((7 : Int32) * (x1 - x2)))), .second] [(.long (own_lushr x3 ((7 : Int32) * (x1 - x2))))]))
          refine own_of (fun _ kk => XS.l2i X0.here hx rfl (hb hby d4_58) rfl kk) ?_
          show own_Fin _ _ _ _ _ _ _ (T0.setTop (mkF m 59 #[.val (.ref x0), .val (.int x1), .val (.int x2), .val (.long x3), .second, .val (.int x4), .val (.int x5), .unset, .val (.int (x1 - x2)), .val (.long (own_lushr x3 ((7 : Int32) * (x1 - x2)))), .second] [(.int (own_lushr x3 ((7 : Int32) * (x1 - x2))).toInt32)]))
          refine own_of (fun _ kk => XS.i2b X0.here hx rfl (hb hby d4_59) rfl kk) ?_
          show own_Fin _ _ _ _ _ _ _ (T0.setTop (mkF m 60 #[.val (.ref x0), .val (.int x1), .val (.int x2), .val (.long x3), .second, .val (.int x4), .val (.int x5), .unset, .val (.int (x1 - x2)), .val (.long (own_lushr x3 ((7 : Int32) * (x1 - x2)))), .second] [(.int (own_i2b (own_lushr x3 ((7 : Int32) * (x1 - x2))).toInt32))]))
          refine own_of (fun _ kk => XS.istore X0.here hx rfl (hb hby d4_60) rfl (l' := #[.val (.ref x0), .val (.int x1), .val (.int x2), .val (.long x3), .second, .val (.int x4), .val (.int x5), .val (.int (own_i2b (own_lushr x3 ((7 : Int32) * (x1 - x2))).toInt32)), .val (.int (x1 - x2)), .val (.long (own_lushr x3 ((7 : Int32) * (x1 - x2)))), .second]) rfl kk) ?_
          show own_Fin _ _ _ _ _ _ _ (T0.setTop (mkF m 62 #[.val (.ref x0), .val (.int x1), .val (.int x2), .val (.long x3), .second, .val (.int x4), .val (.int x5), .val (.int (own_i2b (own_lushr x3 ((7 : Int32) * (x1 - x2))).toInt32)), .val (.int (x1 - x2)), .val (.long (own_lushr x3 ((7 : Int32) * (x1 - x2)))), .second] []))
          simp only [own_m4_62a, if_neg c2, if_pos c10, if_neg c40] at k1 ⊢
          exact k1
      · refine own_of (fun _ kk => XS.icmpNo X0.here hx rfl (hb hby d4_10) rfl (flt c10).1 kk) ?_
        show own_Fin _ _ _ _ _ _ _ (T0.setTop (mkF m 13 #[.val (.ref x0), .val (.int x1), .val (.int x2), .val (.long x3), .second, .val (.int x4), .val (.int x5), .unset, .unset, .unset, .unset] []))
        refine own_of (fun _ kk => XS.iload X0.here hx rfl (hb hby d4_13) rfl kk) ?_
        show own_Fin _ _ _ _ _ _ _ (T0.setTop (mkF m 15 #[.val (.ref x0), .val (.int x1), .val (.int x2), .val (.long x3), .second, .val (.int x4), .val (.int x5), .unset, .unset, .unset, .unset] [(.int x5)]))
        refine own_of (fun _ kk => XS.istore X0.here hx rfl (hb hby d4_15) rfl (l' := #[.val (.ref x0), .val (.int x1), .val (.int x2), .val (.long x3), .second, .val (.int x4), .val (.int x5), .val (.int x5), .unset, .unset, .unset]) rfl kk) ?_
        show own_Fin _ _ _ _ _ _ _ (T0.setTop (mkF m 17 #[.val (.ref x0), .val (.int x1), .val (.int x2), .val (.long x3), .second, .val (.int x4), .val (.int x5), .val (.int x5), .unset, .unset, .unset] []))
        refine own_of (fun _ kk => XS.goto X0.here hx rfl (pc0 := 17) (pc' := 62) rfl (hb hby d4_17) (by decide) (by decide) kk) ?_
        show own_Fin _ _ _ _ _ _ _ (T0.setTop (mkF m 62 #[.val (.ref x0), .val (.int x1), .val (.int x2), .val (.long x3), .second, .val (.int x4), .val (.int x5), .val (.int x5), .unset, .unset, .unset] []))
        simp only [own_m4_62a, if_neg c2, if_neg c10] at k1 ⊢
        exact k1
  show own_Fin _ _ _ _ _ _ _ (T0.setTop (mkF m 62 #[.val (.ref x0), .val (.int x1), .val (.int x2), .val (.long x3), .second, .val (.int x4), .val (.int x5), .val (.int (own_m4_62a x1 x2 x5 x4 x3)), (if x1 < x2 then (.unset : Slot) else (if x1 < (x2 + x4) then (.val (.int (x1 - x2)) : Slot) else (.unset : Slot))), (if x1 < x2 then (.unset : Slot) else (if x1 < (x2 + x4) then (.val (.long (own_lushr x3 ((7 : Int32) * (x1 - x2)))) : Slot) else (.unset : Slot))), (if x1 < x2 then (.unset : Slot) else (if x1 < (x2 + x4) then (.second : Slot) else (.unset : Slot)))] []))
  refine own_of (fun _ kk => XS.aloadN X0.here hx rfl (hb hby d4_62) rfl rfl kk) ?_
  show own_Fin _ _ _ _ _ _ _ (T0.setTop (mkF m 63 #[.val (.ref x0), .val (.int x1), .val (.int x2), .val (.long x3), .second, .val (.int x4), .val (.int x5), .val (.int (own_m4_62a x1 x2 x5 x4 x3)), (if x1 < x2 then (.unset : Slot) else (if x1 < (x2 + x4) then (.val (.int (x1 - x2)) : Slot) else (.unset : Slot))), (if x1 < x2 then (.unset : Slot) else (if x1 < (x2 + x4) then (.val (.long (own_lushr x3 ((7 : Int32) * (x1 - x2)))) : Slot) else (.unset : Slot))), (if x1 < x2 then (.unset : Slot) else (if x1 < (x2 + x4) then (.second : Slot) else (.unset : Slot)))] [(.ref x0)]))
  refine own_of (fun _ kk => XS.iloadN X0.here hx rfl (hb hby d4_63) rfl kk) ?_
  show own_Fin _ _ _ _ _ _ _ (T0.setTop (mkF m 64 #[.val (.ref x0), .val (.int x1), .val (.int x2), .val (.long x3), .second, .val (.int x4), .val (.int x5), .val (.int (own_m4_62a x1 x2 x5 x4 x3)), (if x1 < x2 then (.unset : Slot) else (if x1 < (x2 + x4) then (.val (.int (x1 - x2)) : Slot) else (.unset : Slot))), (if x1 < x2 then (.unset : Slot) else (if x1 < (x2 + x4) then (.val (.long (own_lushr x3 ((7 : Int32) * (x1 - x2)))) : Slot) else (.unset : Slot))), (if x1 < x2 then (.unset : Slot) else (if x1 < (x2 + x4) then (.second : Slot) else (.unset : Slot)))] [(.int x1), (.ref x0)]))
  refine own_baload X0 hx hZ e0 A (i := i) hj hi (v := (.int r)) (by rw [hv]) (hb hby d4_64) ?_
  show own_Fin _ _ _ _ _ _ _ (T0.setTop (mkF m 65 #[.val (.ref x0), .val (.int x1), .val (.int x2), .val (.long x3), .second, .val (.int x4), .val (.int x5), .val (.int (own_m4_62a x1 x2 x5 x4 x3)), (if x1 < x2 then (.unset : Slot) else (if x1 < (x2 + x4) then (.val (.int (x1 - x2)) : Slot) else (.unset : Slot))), (if x1 < x2 then (.unset : Slot) else (if x1 < (x2 + x4) then (.val (.long (own_lushr x3 ((7 : Int32) * (x1 - x2)))) : Slot) else (.unset : Slot))), (if x1 < x2 then (.unset : Slot) else (if x1 < (x2 + x4) then (.second : Slot) else (.unset : Slot)))] [(.int r)]))
  refine own_of (fun _ kk => XS.iload X0.here hx rfl (hb hby d4_65) rfl kk) ?_
  show own_Fin _ _ _ _ _ _ _ (T0.setTop (mkF m 67 #[.val (.ref x0), .val (.int x1), .val (.int x2), .val (.long x3), .second, .val (.int x4), .val (.int x5), .val (.int (own_m4_62a x1 x2 x5 x4 x3)), (if x1 < x2 then (.unset : Slot) else (if x1 < (x2 + x4) then (.val (.int (x1 - x2)) : Slot) else (.unset : Slot))), (if x1 < x2 then (.unset : Slot) else (if x1 < (x2 + x4) then (.val (.long (own_lushr x3 ((7 : Int32) * (x1 - x2)))) : Slot) else (.unset : Slot))), (if x1 < x2 then (.unset : Slot) else (if x1 < (x2 + x4) then (.second : Slot) else (.unset : Slot)))] [(.int (own_m4_62a x1 x2 x5 x4 x3)), (.int r)]))
  refine own_of (fun _ kk => XS.icmpNo X0.here hx rfl (hb hby d4_67) rfl (teq hok).2 kk) ?_
  show own_Fin _ _ _ _ _ _ _ (T0.setTop (mkF m 70 #[.val (.ref x0), .val (.int x1), .val (.int x2), .val (.long x3), .second, .val (.int x4), .val (.int x5), .val (.int (own_m4_62a x1 x2 x5 x4 x3)), (if x1 < x2 then (.unset : Slot) else (if x1 < (x2 + x4) then (.val (.int (x1 - x2)) : Slot) else (.unset : Slot))), (if x1 < x2 then (.unset : Slot) else (if x1 < (x2 + x4) then (.val (.long (own_lushr x3 ((7 : Int32) * (x1 - x2)))) : Slot) else (.unset : Slot))), (if x1 < x2 then (.unset : Slot) else (if x1 < (x2 + x4) then (.second : Slot) else (.unset : Slot)))] []))
  refine own_of (fun _ kk => XS.iconst X0.here hx rfl (hb hby d4_70) kk) ?_
  show own_Fin _ _ _ _ _ _ _ (T0.setTop (mkF m 71 #[.val (.ref x0), .val (.int x1), .val (.int x2), .val (.long x3), .second, .val (.int x4), .val (.int x5), .val (.int (own_m4_62a x1 x2 x5 x4 x3)), (if x1 < x2 then (.unset : Slot) else (if x1 < (x2 + x4) then (.val (.int (x1 - x2)) : Slot) else (.unset : Slot))), (if x1 < x2 then (.unset : Slot) else (if x1 < (x2 + x4) then (.val (.long (own_lushr x3 ((7 : Int32) * (x1 - x2)))) : Slot) else (.unset : Slot))), (if x1 < x2 then (.unset : Slot) else (if x1 < (x2 + x4) then (.second : Slot) else (.unset : Slot)))] [(.int (1 : Int32))]))
  refine own_of (fun _ kk => XS.goto X0.here hx rfl (pc0 := 71) (pc' := 75) rfl (hb hby d4_71) (by decide) (by decide) kk) ?_
  show own_Fin _ _ _ _ _ _ _ (T0.setTop (mkF m 75 #[.val (.ref x0), .val (.int x1), .val (.int x2), .val (.long x3), .second, .val (.int x4), .val (.int x5), .val (.int (own_m4_62a x1 x2 x5 x4 x3)), (if x1 < x2 then (.unset : Slot) else (if x1 < (x2 + x4) then (.val (.int (x1 - x2)) : Slot) else (.unset : Slot))), (if x1 < x2 then (.unset : Slot) else (if x1 < (x2 + x4) then (.val (.long (own_lushr x3 ((7 : Int32) * (x1 - x2)))) : Slot) else (.unset : Slot))), (if x1 < x2 then (.unset : Slot) else (if x1 < (x2 + x4) then (.second : Slot) else (.unset : Slot)))] [(.int (1 : Int32))]))
  exact own_retN X0 hx hlk e0 (t := .boolean) hret (by simp) (hb hby d4_75) (by decide) (by decide) (z' := (1 : Int32)) (by decide) ⟨rfl, rfl, rfl⟩
theorem own_contN (v : Int64) (t : Nat) : own_cont v t ↔ 128 ≤ v.toBitVec.toNat / 2 ^ (7 * t) := by
  unfold own_cont; rw [own_mask, own_sr_nat]; omega
theorem own_nzs (v : Int64) (q : Int32) (t : Nat) (hq : q.toBitVec.toNat % 64 = 7 * (t + 1)) (k : Nat) (h1 : ∀ t, t < k → own_cont v t) (h2 : ¬ own_cont v k) : (own_f3 (own_lushr v q)).toInt = if t < k then 1 else 0 := by
  have e : own_lushr v q = 0 ↔ ¬ t < k := by
    rw [own_l0, own_lushr_nat v q _ hq]
    have s1 : v.toBitVec.toNat / 2 ^ (7 * (t + 1)) = v.toBitVec.toNat / 2 ^ (7 * t) / 128 := by rw [Nat.div_div_eq_div_mul, show 7 * (t + 1) = 7 * t + 7 by omega, Nat.pow_add]
    constructor
    · intro h hlt
      have := (own_contN v t).mp (h1 t hlt)
      omega
    · intro h
      rw [own_contN] at h2
      have : v.toBitVec.toNat / 2 ^ (7 * t) ≤ v.toBitVec.toNat / 2 ^ (7 * k) := Nat.div_le_div_left (Nat.pow_le_pow_right (by decide) (by omega)) (Nat.pow_pos (by decide))
      rw [s1]
      generalize v.toBitVec.toNat / 2 ^ (7 * t) = A at *
      generalize v.toBitVec.toNat / 2 ^ (7 * k) = D at *
      omega
  unfold own_f3
  by_cases h : own_lushr v q = 0
  · rw [if_pos h, if_neg (e.mp h)]; rfl
  · rw [if_neg h, if_pos (by by_cases g : t < k; exact g; exact absurd (e.mpr g) h)]; rfl
theorem own_size (v : Int64) (k : Nat) (hk : k ≤ 9) (h1 : ∀ t, t < k → own_cont v t) (h2 : ¬ own_cont v k) : (own_f2 v).toInt = ((k + 1 : Nat) : Int) := by
  unfold own_f2
  have n1 := own_nzs v 7 0 (by decide) k h1 h2
  have n2 := own_nzs v 14 1 (by decide) k h1 h2
  have n3 := own_nzs v 21 2 (by decide) k h1 h2
  have n4 := own_nzs v 28 3 (by decide) k h1 h2
  have n5 := own_nzs v 35 4 (by decide) k h1 h2
  have n6 := own_nzs v 42 5 (by decide) k h1 h2
  have n7 := own_nzs v 49 6 (by decide) k h1 h2
  have n8 := own_nzs v 56 7 (by decide) k h1 h2
  have n9 := own_nzs v 63 8 (by decide) k h1 h2
  have k1 : (1 : Int32).toInt = 1 := by decide
  have a1 := c_iadd 1 (own_f3 (own_lushr v 7))
  have r1 := rng32 (1 + own_f3 (own_lushr v 7))
  have a2 := c_iadd ((1 : Int32) + own_f3 (own_lushr v 7)) (own_f3 (own_lushr v 14))
  have r2 := rng32 (((1 : Int32) + own_f3 (own_lushr v 7)) + own_f3 (own_lushr v 14))
  have a3 := c_iadd ((1 : Int32) + own_f3 (own_lushr v 7) + own_f3 (own_lushr v 14)) (own_f3 (own_lushr v 21))
  have r3 := rng32 (((1 : Int32) + own_f3 (own_lushr v 7) + own_f3 (own_lushr v 14)) + own_f3 (own_lushr v 21))
  have a4 := c_iadd ((1 : Int32) + own_f3 (own_lushr v 7) + own_f3 (own_lushr v 14) + own_f3 (own_lushr v 21)) (own_f3 (own_lushr v 28))
  have r4 := rng32 (((1 : Int32) + own_f3 (own_lushr v 7) + own_f3 (own_lushr v 14) + own_f3 (own_lushr v 21)) + own_f3 (own_lushr v 28))
  have a5 := c_iadd ((1 : Int32) + own_f3 (own_lushr v 7) + own_f3 (own_lushr v 14) + own_f3 (own_lushr v 21) + own_f3 (own_lushr v 28)) (own_f3 (own_lushr v 35))
  have r5 := rng32 (((1 : Int32) + own_f3 (own_lushr v 7) + own_f3 (own_lushr v 14) + own_f3 (own_lushr v 21) + own_f3 (own_lushr v 28)) + own_f3 (own_lushr v 35))
  have a6 := c_iadd ((1 : Int32) + own_f3 (own_lushr v 7) + own_f3 (own_lushr v 14) + own_f3 (own_lushr v 21) + own_f3 (own_lushr v 28) + own_f3 (own_lushr v 35)) (own_f3 (own_lushr v 42))
  have r6 := rng32 (((1 : Int32) + own_f3 (own_lushr v 7) + own_f3 (own_lushr v 14) + own_f3 (own_lushr v 21) + own_f3 (own_lushr v 28) + own_f3 (own_lushr v 35)) + own_f3 (own_lushr v 42))
  have a7 := c_iadd ((1 : Int32) + own_f3 (own_lushr v 7) + own_f3 (own_lushr v 14) + own_f3 (own_lushr v 21) + own_f3 (own_lushr v 28) + own_f3 (own_lushr v 35) + own_f3 (own_lushr v 42)) (own_f3 (own_lushr v 49))
  have r7 := rng32 (((1 : Int32) + own_f3 (own_lushr v 7) + own_f3 (own_lushr v 14) + own_f3 (own_lushr v 21) + own_f3 (own_lushr v 28) + own_f3 (own_lushr v 35) + own_f3 (own_lushr v 42)) + own_f3 (own_lushr v 49))
  have a8 := c_iadd ((1 : Int32) + own_f3 (own_lushr v 7) + own_f3 (own_lushr v 14) + own_f3 (own_lushr v 21) + own_f3 (own_lushr v 28) + own_f3 (own_lushr v 35) + own_f3 (own_lushr v 42) + own_f3 (own_lushr v 49)) (own_f3 (own_lushr v 56))
  have r8 := rng32 (((1 : Int32) + own_f3 (own_lushr v 7) + own_f3 (own_lushr v 14) + own_f3 (own_lushr v 21) + own_f3 (own_lushr v 28) + own_f3 (own_lushr v 35) + own_f3 (own_lushr v 42) + own_f3 (own_lushr v 49)) + own_f3 (own_lushr v 56))
  have a9 := c_iadd ((1 : Int32) + own_f3 (own_lushr v 7) + own_f3 (own_lushr v 14) + own_f3 (own_lushr v 21) + own_f3 (own_lushr v 28) + own_f3 (own_lushr v 35) + own_f3 (own_lushr v 42) + own_f3 (own_lushr v 49) + own_f3 (own_lushr v 56)) (own_f3 (own_lushr v 63))
  have r9 := rng32 (((1 : Int32) + own_f3 (own_lushr v 7) + own_f3 (own_lushr v 14) + own_f3 (own_lushr v 21) + own_f3 (own_lushr v 28) + own_f3 (own_lushr v 35) + own_f3 (own_lushr v 42) + own_f3 (own_lushr v 49) + own_f3 (own_lushr v 56)) + own_f3 (own_lushr v 63))
  omega
theorem own_natOf (x : Int32) (k : Nat) (h : x.toInt = (k : Int)) : x.toBitVec.toNat = k := by
  have h1 : x.toBitVec.toInt = (k : Int) := h
  have h2 := x.toBitVec.isLt
  rw [BitVec.toInt_eq_toNat_cond] at h1
  split at h1 <;> omega
theorem own_key (v : Int64) (at_ sz fill q : Int32) (a k j : Nat) (f : Nat → Int32) (ha : at_.toInt = (a : Int)) (ha3 : a ≤ 3) (hk : k ≤ 9) (hs : sz.toInt = ((k + 1 : Nat) : Int)) (hq : q.toInt = (j : Int)) (hj : j < 16) (hf : f j = fill) : own_w2 a v f k j = own_m4_62a q at_ fill sz v := by
  have k1 : (1 : Int32).toInt = 1 := by decide
  have k7 : (7 : Int32).toInt = 7 := by decide
  have s1 := c_iadd at_ sz
  have s2 := rng32 (at_ + sz)
  have s3 := c_isub q at_
  have s4 := rng32 (q - at_)
  have s5 := c_isub sz 1
  have s6 := rng32 (sz - 1)
  have s7 := c_imul 7 (q - at_)
  have s8 := rng32 (7 * (q - at_))
  have e1 : (q < at_) ↔ j < a := by rw [Int32.lt_iff_toInt_lt]; omega
  have e2 : (q < at_ + sz) ↔ j < a + (k + 1) := by rw [Int32.lt_iff_toInt_lt]; omega
  have e3 : (q - at_ < sz - 1) ↔ j < a + k := by rw [Int32.lt_iff_toInt_lt]; omega
  unfold own_m4_62a own_w2 own_w
  by_cases g1 : j < a
  · rw [if_pos (e1.mpr g1), if_neg (by omega), if_neg (by omega)]; exact hf
  · rw [if_neg (mt e1.mp g1)]
    by_cases g2 : j < a + (k + 1)
    · rw [if_pos (e2.mpr g2)]
      have t1 : (q - at_).toInt = ((j - a : Nat) : Int) := by omega
      have t2 : (7 * (q - at_)).toInt = ((7 * (j - a) : Nat) : Int) := by rw [t1, k7] at s7; omega
      have t3 : own_lushr v (7 * (q - at_)) = own_sr v (7 * (j - a)) := own_lushr_sr v _ _ (by rw [own_natOf _ _ t2]; omega)
      rw [t3]
      by_cases g3 : j < a + k
      · rw [if_pos (e3.mpr g3), if_neg (by omega), if_pos (by omega)]; exact own_i2b_i2b _
      · rw [if_neg (mt e3.mp g3), if_pos (by omega), show j - a = k by omega]; exact own_i2b_i2b _
    · rw [if_neg (mt e2.mp g2), if_neg (by omega), if_neg (by omega)]; exact hf
theorem own_at (x : Int32) : (x &&& (3 : Int32)).toInt = (((x &&& (3 : Int32)).toInt.toNat : Nat) : Int) ∧ (x &&& (3 : Int32)).toInt.toNat ≤ 3 := by
  have h := c_mask x 3 2 (by decide) (by decide)
  omega
theorem own_sum (z at_ sz : Int32) (a k : Nat) (ha : at_.toInt = (a : Int)) (ha3 : a ≤ 3) (hk : k ≤ 9) (hz : z.toInt = ((a + (k + 1) : Nat) : Int)) (hs : sz.toInt = ((k + 1 : Nat) : Int)) : z = at_ + sz := by
  have s1 := c_iadd at_ sz
  have s2 := rng32 (at_ + sz)
  exact Int32.toInt_inj.mp (by omega)
set_option maxRecDepth 65536 in
set_option maxHeartbeats 40000000 in
theorem own_law (l : Launch) (Z : State) (a0 : Array Value) (hw : ∀ d ∈ tables_1, d.before a0 Z = true) (x0 : Int64) (x1 : Int32) (x2 : Int32) (x3 : Int32) (h0 : Heap) (n0 : Nat) (Z0 : n0 ≤ h0.size) :
    own_Met l Z x code maxLocals ret room_1 #[(.long x0), (.int x1), (.int x2), (.int x3)] h0 (fun v h L => v = some (.int 1) ∧ Fr n0 L) := by
  refine own_met pn_0 ?_
  intro p e s m below meth c T0 X0 hx hby hml hown hZ e0 hret hlk hnm
  replace hown : s.vm.findClass "com/example/dosefold/dosefold/sort/EncoderPutBitsPinLaw" = some m.cls := hown
  replace hml : c.maxLocals = 12 := hml
  rw [ef_0 m x0 x1 x2 x3]
  have N0 := Fr.nil n0
  show own_Fin _ _ _ _ _ _ _ (T0.setTop (mkF m 0 #[.val (.long x0), .second, .val (.int x1), .val (.int x2), .val (.int x3), .unset, .unset, .unset, .unset, .unset, .unset, .unset] []))
  refine own_of (fun _ kk => XS.lloadN X0.here hx rfl (hb hby at_0) rfl kk) ?_
  show own_Fin _ _ _ _ _ _ _ (T0.setTop (mkF m 1 #[.val (.long x0), .second, .val (.int x1), .val (.int x2), .val (.int x3), .unset, .unset, .unset, .unset, .unset, .unset, .unset] [(.long x0)]))
  refine own_of (fun _ kk => XS.iloadN X0.here hx rfl (hb hby at_1) rfl kk) ?_
  show own_Fin _ _ _ _ _ _ _ (T0.setTop (mkF m 2 #[.val (.long x0), .second, .val (.int x1), .val (.int x2), .val (.int x3), .unset, .unset, .unset, .unset, .unset, .unset, .unset] [(.int x1), (.long x0)]))
  refine own_of (fun _ kk => XS.bipush X0.here hx rfl (hb hby at_2) kk) ?_
  show own_Fin _ _ _ _ _ _ _ (T0.setTop (mkF m 4 #[.val (.long x0), .second, .val (.int x1), .val (.int x2), .val (.int x3), .unset, .unset, .unset, .unset, .unset, .unset, .unset] [(.int (63 : Int32)), (.int x1), (.long x0)]))
  refine own_of (fun _ kk => XS.iand X0.here hx rfl (hb hby at_4) rfl kk) ?_
  show own_Fin _ _ _ _ _ _ _ (T0.setTop (mkF m 5 #[.val (.long x0), .second, .val (.int x1), .val (.int x2), .val (.int x3), .unset, .unset, .unset, .unset, .unset, .unset, .unset] [(.int (x1 &&& (63 : Int32))), (.long x0)]))
  refine own_of (fun _ kk => XS.lushr X0.here hx rfl (hb hby at_5) rfl kk) ?_
  show own_Fin _ _ _ _ _ _ _ (T0.setTop (mkF m 6 #[.val (.long x0), .second, .val (.int x1), .val (.int x2), .val (.int x3), .unset, .unset, .unset, .unset, .unset, .unset, .unset] [(.long (own_lushr x0 (x1 &&& (63 : Int32))))]))
  refine own_of (fun _ kk => XS.lstore X0.here hx rfl (hb hby at_6) rfl (l' := #[.val (.long x0), .second, .val (.int x1), .val (.int x2), .val (.int x3), .val (.long (own_lushr x0 (x1 &&& (63 : Int32)))), .second, .unset, .unset, .unset, .unset, .unset]) rfl kk) ?_
  show own_Fin _ _ _ _ _ _ _ (T0.setTop (mkF m 8 #[.val (.long x0), .second, .val (.int x1), .val (.int x2), .val (.int x3), .val (.long (own_lushr x0 (x1 &&& (63 : Int32)))), .second, .unset, .unset, .unset, .unset, .unset] []))
  refine own_of (fun _ kk => XS.iloadN X0.here hx rfl (hb hby at_8) rfl kk) ?_
  show own_Fin _ _ _ _ _ _ _ (T0.setTop (mkF m 9 #[.val (.long x0), .second, .val (.int x1), .val (.int x2), .val (.int x3), .val (.long (own_lushr x0 (x1 &&& (63 : Int32)))), .second, .unset, .unset, .unset, .unset, .unset] [(.int x2)]))
  refine own_of (fun _ kk => XS.iconst X0.here hx rfl (hb hby at_9) kk) ?_
  show own_Fin _ _ _ _ _ _ _ (T0.setTop (mkF m 10 #[.val (.long x0), .second, .val (.int x1), .val (.int x2), .val (.int x3), .val (.long (own_lushr x0 (x1 &&& (63 : Int32)))), .second, .unset, .unset, .unset, .unset, .unset] [(.int (3 : Int32)), (.int x2)]))
  refine own_of (fun _ kk => XS.iand X0.here hx rfl (hb hby at_10) rfl kk) ?_
  show own_Fin _ _ _ _ _ _ _ (T0.setTop (mkF m 11 #[.val (.long x0), .second, .val (.int x1), .val (.int x2), .val (.int x3), .val (.long (own_lushr x0 (x1 &&& (63 : Int32)))), .second, .unset, .unset, .unset, .unset, .unset] [(.int (x2 &&& (3 : Int32)))]))
  refine own_of (fun _ kk => XS.istore X0.here hx rfl (hb hby at_11) rfl (l' := #[.val (.long x0), .second, .val (.int x1), .val (.int x2), .val (.int x3), .val (.long (own_lushr x0 (x1 &&& (63 : Int32)))), .second, .val (.int (x2 &&& (3 : Int32))), .unset, .unset, .unset, .unset]) rfl kk) ?_
  show own_Fin _ _ _ _ _ _ _ (T0.setTop (mkF m 13 #[.val (.long x0), .second, .val (.int x1), .val (.int x2), .val (.int x3), .val (.long (own_lushr x0 (x1 &&& (63 : Int32)))), .second, .val (.int (x2 &&& (3 : Int32))), .unset, .unset, .unset, .unset] []))
  refine own_of (fun _ kk => XS.iload X0.here hx rfl (hb hby at_13) rfl kk) ?_
  show own_Fin _ _ _ _ _ _ _ (T0.setTop (mkF m 15 #[.val (.long x0), .second, .val (.int x1), .val (.int x2), .val (.int x3), .val (.long (own_lushr x0 (x1 &&& (63 : Int32)))), .second, .val (.int (x2 &&& (3 : Int32))), .unset, .unset, .unset, .unset] [(.int x3)]))
  refine own_of (fun _ kk => XS.i2b X0.here hx rfl (hb hby at_15) rfl kk) ?_
  show own_Fin _ _ _ _ _ _ _ (T0.setTop (mkF m 16 #[.val (.long x0), .second, .val (.int x1), .val (.int x2), .val (.int x3), .val (.long (own_lushr x0 (x1 &&& (63 : Int32)))), .second, .val (.int (x2 &&& (3 : Int32))), .unset, .unset, .unset, .unset] [(.int (own_i2b x3))]))
  refine own_of (fun _ kk => XS.istore X0.here hx rfl (hb hby at_16) rfl (l' := #[.val (.long x0), .second, .val (.int x1), .val (.int x2), .val (.int x3), .val (.long (own_lushr x0 (x1 &&& (63 : Int32)))), .second, .val (.int (x2 &&& (3 : Int32))), .val (.int (own_i2b x3)), .unset, .unset, .unset]) rfl kk) ?_
  show own_Fin _ _ _ _ _ _ _ (T0.setTop (mkF m 18 #[.val (.long x0), .second, .val (.int x1), .val (.int x2), .val (.int x3), .val (.long (own_lushr x0 (x1 &&& (63 : Int32)))), .second, .val (.int (x2 &&& (3 : Int32))), .val (.int (own_i2b x3)), .unset, .unset, .unset] []))
  refine own_of (fun _ kk => XS.bipush X0.here hx rfl (hb hby at_18) kk) ?_
  show own_Fin _ _ _ _ _ _ _ (T0.setTop (mkF m 20 #[.val (.long x0), .second, .val (.int x1), .val (.int x2), .val (.int x3), .val (.long (own_lushr x0 (x1 &&& (63 : Int32)))), .second, .val (.int (x2 &&& (3 : Int32))), .val (.int (own_i2b x3)), .unset, .unset, .unset] [(.int (16 : Int32))]))
  refine own_newP X0 hx hZ (hw _ (List.mem_of_getElem? (i := 0) rfl)) e0 (hb hby at_20) (n := 16) (by decide) (cap := 16) (Nat.le_refl _) (by decide) (by decide) (by decide) ?_
  intro T1 h1 b1 X1 e1 E1 g1 A1
  have Z1 : n0 ≤ h1.size := Nat.le_trans Z0 E1.1
  have ge_b1 : n0 ≤ b1 := by rw [g1]; exact Z0
  replace A1 : own_Arf Z h1 b1 .byte 16 (fun _ => (.int (0 : Int32))) := A1
  show own_Fin _ _ _ _ _ _ _ (T1.setTop (mkF m 22 #[.val (.long x0), .second, .val (.int x1), .val (.int x2), .val (.int x3), .val (.long (own_lushr x0 (x1 &&& (63 : Int32)))), .second, .val (.int (x2 &&& (3 : Int32))), .val (.int (own_i2b x3)), .unset, .unset, .unset] [(.ref b1)]))
  refine own_of (fun _ kk => XS.dup X1.here hx rfl (hb hby at_22) rfl rfl kk) ?_
  show own_Fin _ _ _ _ _ _ _ (T1.setTop (mkF m 23 #[.val (.long x0), .second, .val (.int x1), .val (.int x2), .val (.int x3), .val (.long (own_lushr x0 (x1 &&& (63 : Int32)))), .second, .val (.int (x2 &&& (3 : Int32))), .val (.int (own_i2b x3)), .unset, .unset, .unset] [(.ref b1), (.ref b1)]))
  refine own_of (fun _ kk => XS.iconst X1.here hx rfl (hb hby at_23) kk) ?_
  show own_Fin _ _ _ _ _ _ _ (T1.setTop (mkF m 24 #[.val (.long x0), .second, .val (.int x1), .val (.int x2), .val (.int x3), .val (.long (own_lushr x0 (x1 &&& (63 : Int32)))), .second, .val (.int (x2 &&& (3 : Int32))), .val (.int (own_i2b x3)), .unset, .unset, .unset] [(.int (0 : Int32)), (.ref b1), (.ref b1)]))
  refine own_of (fun _ kk => XS.iload X1.here hx rfl (hb hby at_24) rfl kk) ?_
  show own_Fin _ _ _ _ _ _ _ (T1.setTop (mkF m 26 #[.val (.long x0), .second, .val (.int x1), .val (.int x2), .val (.int x3), .val (.long (own_lushr x0 (x1 &&& (63 : Int32)))), .second, .val (.int (x2 &&& (3 : Int32))), .val (.int (own_i2b x3)), .unset, .unset, .unset] [(.int (own_i2b x3)), (.int (0 : Int32)), (.ref b1), (.ref b1)]))
  refine own_bastore X1 hx hZ e1 A1 N0 ge_b1 (i := 0) (by decide) (by decide) (hb hby at_26) ?_
  intro T2 h2 l2 X2 N2 e2 W2 A2
  replace A2 : own_Arf Z h2 b1 .byte 16 (fun j => if j = 0 then (.int (own_i2b (own_i2b x3))) else (fun _ => (.int (0 : Int32))) j) := A2
  have ZW2 : n0 ≤ h2.size := by rw [Wr.size W2]; exact Z1
  show own_Fin _ _ _ _ _ _ _ (T2.setTop (mkF m 27 #[.val (.long x0), .second, .val (.int x1), .val (.int x2), .val (.int x3), .val (.long (own_lushr x0 (x1 &&& (63 : Int32)))), .second, .val (.int (x2 &&& (3 : Int32))), .val (.int (own_i2b x3)), .unset, .unset, .unset] [(.ref b1)]))
  refine own_of (fun _ kk => XS.dup X2.here hx rfl (hb hby at_27) rfl rfl kk) ?_
  show own_Fin _ _ _ _ _ _ _ (T2.setTop (mkF m 28 #[.val (.long x0), .second, .val (.int x1), .val (.int x2), .val (.int x3), .val (.long (own_lushr x0 (x1 &&& (63 : Int32)))), .second, .val (.int (x2 &&& (3 : Int32))), .val (.int (own_i2b x3)), .unset, .unset, .unset] [(.ref b1), (.ref b1)]))
  refine own_of (fun _ kk => XS.iconst X2.here hx rfl (hb hby at_28) kk) ?_
  show own_Fin _ _ _ _ _ _ _ (T2.setTop (mkF m 29 #[.val (.long x0), .second, .val (.int x1), .val (.int x2), .val (.int x3), .val (.long (own_lushr x0 (x1 &&& (63 : Int32)))), .second, .val (.int (x2 &&& (3 : Int32))), .val (.int (own_i2b x3)), .unset, .unset, .unset] [(.int (1 : Int32)), (.ref b1), (.ref b1)]))
  refine own_of (fun _ kk => XS.iload X2.here hx rfl (hb hby at_29) rfl kk) ?_
  show own_Fin _ _ _ _ _ _ _ (T2.setTop (mkF m 31 #[.val (.long x0), .second, .val (.int x1), .val (.int x2), .val (.int x3), .val (.long (own_lushr x0 (x1 &&& (63 : Int32)))), .second, .val (.int (x2 &&& (3 : Int32))), .val (.int (own_i2b x3)), .unset, .unset, .unset] [(.int (own_i2b x3)), (.int (1 : Int32)), (.ref b1), (.ref b1)]))
  refine own_bastore X2 hx hZ e2 A2 N2 ge_b1 (i := 1) (by decide) (by decide) (hb hby at_31) ?_
  intro T3 h3 l3 X3 N3 e3 W3 A3
  replace A3 : own_Arf Z h3 b1 .byte 16 (fun j => if j = 1 then (.int (own_i2b (own_i2b x3))) else (fun j => if j = 0 then (.int (own_i2b (own_i2b x3))) else (fun _ => (.int (0 : Int32))) j) j) := A3
  have ZW3 : n0 ≤ h3.size := by rw [Wr.size W3]; exact ZW2
  show own_Fin _ _ _ _ _ _ _ (T3.setTop (mkF m 32 #[.val (.long x0), .second, .val (.int x1), .val (.int x2), .val (.int x3), .val (.long (own_lushr x0 (x1 &&& (63 : Int32)))), .second, .val (.int (x2 &&& (3 : Int32))), .val (.int (own_i2b x3)), .unset, .unset, .unset] [(.ref b1)]))
  refine own_of (fun _ kk => XS.dup X3.here hx rfl (hb hby at_32) rfl rfl kk) ?_
  show own_Fin _ _ _ _ _ _ _ (T3.setTop (mkF m 33 #[.val (.long x0), .second, .val (.int x1), .val (.int x2), .val (.int x3), .val (.long (own_lushr x0 (x1 &&& (63 : Int32)))), .second, .val (.int (x2 &&& (3 : Int32))), .val (.int (own_i2b x3)), .unset, .unset, .unset] [(.ref b1), (.ref b1)]))
  refine own_of (fun _ kk => XS.iconst X3.here hx rfl (hb hby at_33) kk) ?_
  show own_Fin _ _ _ _ _ _ _ (T3.setTop (mkF m 34 #[.val (.long x0), .second, .val (.int x1), .val (.int x2), .val (.int x3), .val (.long (own_lushr x0 (x1 &&& (63 : Int32)))), .second, .val (.int (x2 &&& (3 : Int32))), .val (.int (own_i2b x3)), .unset, .unset, .unset] [(.int (2 : Int32)), (.ref b1), (.ref b1)]))
  refine own_of (fun _ kk => XS.iload X3.here hx rfl (hb hby at_34) rfl kk) ?_
  show own_Fin _ _ _ _ _ _ _ (T3.setTop (mkF m 36 #[.val (.long x0), .second, .val (.int x1), .val (.int x2), .val (.int x3), .val (.long (own_lushr x0 (x1 &&& (63 : Int32)))), .second, .val (.int (x2 &&& (3 : Int32))), .val (.int (own_i2b x3)), .unset, .unset, .unset] [(.int (own_i2b x3)), (.int (2 : Int32)), (.ref b1), (.ref b1)]))
  refine own_bastore X3 hx hZ e3 A3 N3 ge_b1 (i := 2) (by decide) (by decide) (hb hby at_36) ?_
  intro T4 h4 l4 X4 N4 e4 W4 A4
  replace A4 : own_Arf Z h4 b1 .byte 16 (fun j => if j = 2 then (.int (own_i2b (own_i2b x3))) else (fun j => if j = 1 then (.int (own_i2b (own_i2b x3))) else (fun j => if j = 0 then (.int (own_i2b (own_i2b x3))) else (fun _ => (.int (0 : Int32))) j) j) j) := A4
  have ZW4 : n0 ≤ h4.size := by rw [Wr.size W4]; exact ZW3
  show own_Fin _ _ _ _ _ _ _ (T4.setTop (mkF m 37 #[.val (.long x0), .second, .val (.int x1), .val (.int x2), .val (.int x3), .val (.long (own_lushr x0 (x1 &&& (63 : Int32)))), .second, .val (.int (x2 &&& (3 : Int32))), .val (.int (own_i2b x3)), .unset, .unset, .unset] [(.ref b1)]))
  refine own_of (fun _ kk => XS.dup X4.here hx rfl (hb hby at_37) rfl rfl kk) ?_
  show own_Fin _ _ _ _ _ _ _ (T4.setTop (mkF m 38 #[.val (.long x0), .second, .val (.int x1), .val (.int x2), .val (.int x3), .val (.long (own_lushr x0 (x1 &&& (63 : Int32)))), .second, .val (.int (x2 &&& (3 : Int32))), .val (.int (own_i2b x3)), .unset, .unset, .unset] [(.ref b1), (.ref b1)]))
  refine own_of (fun _ kk => XS.iconst X4.here hx rfl (hb hby at_38) kk) ?_
  show own_Fin _ _ _ _ _ _ _ (T4.setTop (mkF m 39 #[.val (.long x0), .second, .val (.int x1), .val (.int x2), .val (.int x3), .val (.long (own_lushr x0 (x1 &&& (63 : Int32)))), .second, .val (.int (x2 &&& (3 : Int32))), .val (.int (own_i2b x3)), .unset, .unset, .unset] [(.int (3 : Int32)), (.ref b1), (.ref b1)]))
  refine own_of (fun _ kk => XS.iload X4.here hx rfl (hb hby at_39) rfl kk) ?_
  show own_Fin _ _ _ _ _ _ _ (T4.setTop (mkF m 41 #[.val (.long x0), .second, .val (.int x1), .val (.int x2), .val (.int x3), .val (.long (own_lushr x0 (x1 &&& (63 : Int32)))), .second, .val (.int (x2 &&& (3 : Int32))), .val (.int (own_i2b x3)), .unset, .unset, .unset] [(.int (own_i2b x3)), (.int (3 : Int32)), (.ref b1), (.ref b1)]))
  refine own_bastore X4 hx hZ e4 A4 N4 ge_b1 (i := 3) (by decide) (by decide) (hb hby at_41) ?_
  intro T5 h5 l5 X5 N5 e5 W5 A5
  replace A5 : own_Arf Z h5 b1 .byte 16 (fun j => if j = 3 then (.int (own_i2b (own_i2b x3))) else (fun j => if j = 2 then (.int (own_i2b (own_i2b x3))) else (fun j => if j = 1 then (.int (own_i2b (own_i2b x3))) else (fun j => if j = 0 then (.int (own_i2b (own_i2b x3))) else (fun _ => (.int (0 : Int32))) j) j) j) j) := A5
  have ZW5 : n0 ≤ h5.size := by rw [Wr.size W5]; exact ZW4
  show own_Fin _ _ _ _ _ _ _ (T5.setTop (mkF m 42 #[.val (.long x0), .second, .val (.int x1), .val (.int x2), .val (.int x3), .val (.long (own_lushr x0 (x1 &&& (63 : Int32)))), .second, .val (.int (x2 &&& (3 : Int32))), .val (.int (own_i2b x3)), .unset, .unset, .unset] [(.ref b1)]))
  refine own_of (fun _ kk => XS.dup X5.here hx rfl (hb hby at_42) rfl rfl kk) ?_
  show own_Fin _ _ _ _ _ _ _ (T5.setTop (mkF m 43 #[.val (.long x0), .second, .val (.int x1), .val (.int x2), .val (.int x3), .val (.long (own_lushr x0 (x1 &&& (63 : Int32)))), .second, .val (.int (x2 &&& (3 : Int32))), .val (.int (own_i2b x3)), .unset, .unset, .unset] [(.ref b1), (.ref b1)]))
  refine own_of (fun _ kk => XS.iconst X5.here hx rfl (hb hby at_43) kk) ?_
  show own_Fin _ _ _ _ _ _ _ (T5.setTop (mkF m 44 #[.val (.long x0), .second, .val (.int x1), .val (.int x2), .val (.int x3), .val (.long (own_lushr x0 (x1 &&& (63 : Int32)))), .second, .val (.int (x2 &&& (3 : Int32))), .val (.int (own_i2b x3)), .unset, .unset, .unset] [(.int (4 : Int32)), (.ref b1), (.ref b1)]))
  refine own_of (fun _ kk => XS.iload X5.here hx rfl (hb hby at_44) rfl kk) ?_
  show own_Fin _ _ _ _ _ _ _ (T5.setTop (mkF m 46 #[.val (.long x0), .second, .val (.int x1), .val (.int x2), .val (.int x3), .val (.long (own_lushr x0 (x1 &&& (63 : Int32)))), .second, .val (.int (x2 &&& (3 : Int32))), .val (.int (own_i2b x3)), .unset, .unset, .unset] [(.int (own_i2b x3)), (.int (4 : Int32)), (.ref b1), (.ref b1)]))
  refine own_bastore X5 hx hZ e5 A5 N5 ge_b1 (i := 4) (by decide) (by decide) (hb hby at_46) ?_
  intro T6 h6 l6 X6 N6 e6 W6 A6
  replace A6 : own_Arf Z h6 b1 .byte 16 (fun j => if j = 4 then (.int (own_i2b (own_i2b x3))) else (fun j => if j = 3 then (.int (own_i2b (own_i2b x3))) else (fun j => if j = 2 then (.int (own_i2b (own_i2b x3))) else (fun j => if j = 1 then (.int (own_i2b (own_i2b x3))) else (fun j => if j = 0 then (.int (own_i2b (own_i2b x3))) else (fun _ => (.int (0 : Int32))) j) j) j) j) j) := A6
  have ZW6 : n0 ≤ h6.size := by rw [Wr.size W6]; exact ZW5
  show own_Fin _ _ _ _ _ _ _ (T6.setTop (mkF m 47 #[.val (.long x0), .second, .val (.int x1), .val (.int x2), .val (.int x3), .val (.long (own_lushr x0 (x1 &&& (63 : Int32)))), .second, .val (.int (x2 &&& (3 : Int32))), .val (.int (own_i2b x3)), .unset, .unset, .unset] [(.ref b1)]))
  refine own_of (fun _ kk => XS.dup X6.here hx rfl (hb hby at_47) rfl rfl kk) ?_
  show own_Fin _ _ _ _ _ _ _ (T6.setTop (mkF m 48 #[.val (.long x0), .second, .val (.int x1), .val (.int x2), .val (.int x3), .val (.long (own_lushr x0 (x1 &&& (63 : Int32)))), .second, .val (.int (x2 &&& (3 : Int32))), .val (.int (own_i2b x3)), .unset, .unset, .unset] [(.ref b1), (.ref b1)]))
  refine own_of (fun _ kk => XS.iconst X6.here hx rfl (hb hby at_48) kk) ?_
  show own_Fin _ _ _ _ _ _ _ (T6.setTop (mkF m 49 #[.val (.long x0), .second, .val (.int x1), .val (.int x2), .val (.int x3), .val (.long (own_lushr x0 (x1 &&& (63 : Int32)))), .second, .val (.int (x2 &&& (3 : Int32))), .val (.int (own_i2b x3)), .unset, .unset, .unset] [(.int (5 : Int32)), (.ref b1), (.ref b1)]))
  refine own_of (fun _ kk => XS.iload X6.here hx rfl (hb hby at_49) rfl kk) ?_
  show own_Fin _ _ _ _ _ _ _ (T6.setTop (mkF m 51 #[.val (.long x0), .second, .val (.int x1), .val (.int x2), .val (.int x3), .val (.long (own_lushr x0 (x1 &&& (63 : Int32)))), .second, .val (.int (x2 &&& (3 : Int32))), .val (.int (own_i2b x3)), .unset, .unset, .unset] [(.int (own_i2b x3)), (.int (5 : Int32)), (.ref b1), (.ref b1)]))
  refine own_bastore X6 hx hZ e6 A6 N6 ge_b1 (i := 5) (by decide) (by decide) (hb hby at_51) ?_
  intro T7 h7 l7 X7 N7 e7 W7 A7
  replace A7 : own_Arf Z h7 b1 .byte 16 (fun j => if j = 5 then (.int (own_i2b (own_i2b x3))) else (fun j => if j = 4 then (.int (own_i2b (own_i2b x3))) else (fun j => if j = 3 then (.int (own_i2b (own_i2b x3))) else (fun j => if j = 2 then (.int (own_i2b (own_i2b x3))) else (fun j => if j = 1 then (.int (own_i2b (own_i2b x3))) else (fun j => if j = 0 then (.int (own_i2b (own_i2b x3))) else (fun _ => (.int (0 : Int32))) j) j) j) j) j) j) := A7
  have ZW7 : n0 ≤ h7.size := by rw [Wr.size W7]; exact ZW6
  show own_Fin _ _ _ _ _ _ _ (T7.setTop (mkF m 52 #[.val (.long x0), .second, .val (.int x1), .val (.int x2), .val (.int x3), .val (.long (own_lushr x0 (x1 &&& (63 : Int32)))), .second, .val (.int (x2 &&& (3 : Int32))), .val (.int (own_i2b x3)), .unset, .unset, .unset] [(.ref b1)]))
  refine own_of (fun _ kk => XS.dup X7.here hx rfl (hb hby at_52) rfl rfl kk) ?_
  show own_Fin _ _ _ _ _ _ _ (T7.setTop (mkF m 53 #[.val (.long x0), .second, .val (.int x1), .val (.int x2), .val (.int x3), .val (.long (own_lushr x0 (x1 &&& (63 : Int32)))), .second, .val (.int (x2 &&& (3 : Int32))), .val (.int (own_i2b x3)), .unset, .unset, .unset] [(.ref b1), (.ref b1)]))
  refine own_of (fun _ kk => XS.bipush X7.here hx rfl (hb hby at_53) kk) ?_
  show own_Fin _ _ _ _ _ _ _ (T7.setTop (mkF m 55 #[.val (.long x0), .second, .val (.int x1), .val (.int x2), .val (.int x3), .val (.long (own_lushr x0 (x1 &&& (63 : Int32)))), .second, .val (.int (x2 &&& (3 : Int32))), .val (.int (own_i2b x3)), .unset, .unset, .unset] [(.int (6 : Int32)), (.ref b1), (.ref b1)]))
  refine own_of (fun _ kk => XS.iload X7.here hx rfl (hb hby at_55) rfl kk) ?_
  show own_Fin _ _ _ _ _ _ _ (T7.setTop (mkF m 57 #[.val (.long x0), .second, .val (.int x1), .val (.int x2), .val (.int x3), .val (.long (own_lushr x0 (x1 &&& (63 : Int32)))), .second, .val (.int (x2 &&& (3 : Int32))), .val (.int (own_i2b x3)), .unset, .unset, .unset] [(.int (own_i2b x3)), (.int (6 : Int32)), (.ref b1), (.ref b1)]))
  refine own_bastore X7 hx hZ e7 A7 N7 ge_b1 (i := 6) (by decide) (by decide) (hb hby at_57) ?_
  intro T8 h8 l8 X8 N8 e8 W8 A8
  replace A8 : own_Arf Z h8 b1 .byte 16 (fun j => if j = 6 then (.int (own_i2b (own_i2b x3))) else (fun j => if j = 5 then (.int (own_i2b (own_i2b x3))) else (fun j => if j = 4 then (.int (own_i2b (own_i2b x3))) else (fun j => if j = 3 then (.int (own_i2b (own_i2b x3))) else (fun j => if j = 2 then (.int (own_i2b (own_i2b x3))) else (fun j => if j = 1 then (.int (own_i2b (own_i2b x3))) else (fun j => if j = 0 then (.int (own_i2b (own_i2b x3))) else (fun _ => (.int (0 : Int32))) j) j) j) j) j) j) j) := A8
  have ZW8 : n0 ≤ h8.size := by rw [Wr.size W8]; exact ZW7
  show own_Fin _ _ _ _ _ _ _ (T8.setTop (mkF m 58 #[.val (.long x0), .second, .val (.int x1), .val (.int x2), .val (.int x3), .val (.long (own_lushr x0 (x1 &&& (63 : Int32)))), .second, .val (.int (x2 &&& (3 : Int32))), .val (.int (own_i2b x3)), .unset, .unset, .unset] [(.ref b1)]))
  refine own_of (fun _ kk => XS.dup X8.here hx rfl (hb hby at_58) rfl rfl kk) ?_
  show own_Fin _ _ _ _ _ _ _ (T8.setTop (mkF m 59 #[.val (.long x0), .second, .val (.int x1), .val (.int x2), .val (.int x3), .val (.long (own_lushr x0 (x1 &&& (63 : Int32)))), .second, .val (.int (x2 &&& (3 : Int32))), .val (.int (own_i2b x3)), .unset, .unset, .unset] [(.ref b1), (.ref b1)]))
  refine own_of (fun _ kk => XS.bipush X8.here hx rfl (hb hby at_59) kk) ?_
  show own_Fin _ _ _ _ _ _ _ (T8.setTop (mkF m 61 #[.val (.long x0), .second, .val (.int x1), .val (.int x2), .val (.int x3), .val (.long (own_lushr x0 (x1 &&& (63 : Int32)))), .second, .val (.int (x2 &&& (3 : Int32))), .val (.int (own_i2b x3)), .unset, .unset, .unset] [(.int (7 : Int32)), (.ref b1), (.ref b1)]))
  refine own_of (fun _ kk => XS.iload X8.here hx rfl (hb hby at_61) rfl kk) ?_
  show own_Fin _ _ _ _ _ _ _ (T8.setTop (mkF m 63 #[.val (.long x0), .second, .val (.int x1), .val (.int x2), .val (.int x3), .val (.long (own_lushr x0 (x1 &&& (63 : Int32)))), .second, .val (.int (x2 &&& (3 : Int32))), .val (.int (own_i2b x3)), .unset, .unset, .unset] [(.int (own_i2b x3)), (.int (7 : Int32)), (.ref b1), (.ref b1)]))
  refine own_bastore X8 hx hZ e8 A8 N8 ge_b1 (i := 7) (by decide) (by decide) (hb hby at_63) ?_
  intro T9 h9 l9 X9 N9 e9 W9 A9
  replace A9 : own_Arf Z h9 b1 .byte 16 (fun j => if j = 7 then (.int (own_i2b (own_i2b x3))) else (fun j => if j = 6 then (.int (own_i2b (own_i2b x3))) else (fun j => if j = 5 then (.int (own_i2b (own_i2b x3))) else (fun j => if j = 4 then (.int (own_i2b (own_i2b x3))) else (fun j => if j = 3 then (.int (own_i2b (own_i2b x3))) else (fun j => if j = 2 then (.int (own_i2b (own_i2b x3))) else (fun j => if j = 1 then (.int (own_i2b (own_i2b x3))) else (fun j => if j = 0 then (.int (own_i2b (own_i2b x3))) else (fun _ => (.int (0 : Int32))) j) j) j) j) j) j) j) j) := A9
  have ZW9 : n0 ≤ h9.size := by rw [Wr.size W9]; exact ZW8
  show own_Fin _ _ _ _ _ _ _ (T9.setTop (mkF m 64 #[.val (.long x0), .second, .val (.int x1), .val (.int x2), .val (.int x3), .val (.long (own_lushr x0 (x1 &&& (63 : Int32)))), .second, .val (.int (x2 &&& (3 : Int32))), .val (.int (own_i2b x3)), .unset, .unset, .unset] [(.ref b1)]))
  refine own_of (fun _ kk => XS.dup X9.here hx rfl (hb hby at_64) rfl rfl kk) ?_
  show own_Fin _ _ _ _ _ _ _ (T9.setTop (mkF m 65 #[.val (.long x0), .second, .val (.int x1), .val (.int x2), .val (.int x3), .val (.long (own_lushr x0 (x1 &&& (63 : Int32)))), .second, .val (.int (x2 &&& (3 : Int32))), .val (.int (own_i2b x3)), .unset, .unset, .unset] [(.ref b1), (.ref b1)]))
  refine own_of (fun _ kk => XS.bipush X9.here hx rfl (hb hby at_65) kk) ?_
  show own_Fin _ _ _ _ _ _ _ (T9.setTop (mkF m 67 #[.val (.long x0), .second, .val (.int x1), .val (.int x2), .val (.int x3), .val (.long (own_lushr x0 (x1 &&& (63 : Int32)))), .second, .val (.int (x2 &&& (3 : Int32))), .val (.int (own_i2b x3)), .unset, .unset, .unset] [(.int (8 : Int32)), (.ref b1), (.ref b1)]))
  refine own_of (fun _ kk => XS.iload X9.here hx rfl (hb hby at_67) rfl kk) ?_
  show own_Fin _ _ _ _ _ _ _ (T9.setTop (mkF m 69 #[.val (.long x0), .second, .val (.int x1), .val (.int x2), .val (.int x3), .val (.long (own_lushr x0 (x1 &&& (63 : Int32)))), .second, .val (.int (x2 &&& (3 : Int32))), .val (.int (own_i2b x3)), .unset, .unset, .unset] [(.int (own_i2b x3)), (.int (8 : Int32)), (.ref b1), (.ref b1)]))
  refine own_bastore X9 hx hZ e9 A9 N9 ge_b1 (i := 8) (by decide) (by decide) (hb hby at_69) ?_
  intro T10 h10 l10 X10 N10 e10 W10 A10
  replace A10 : own_Arf Z h10 b1 .byte 16 (fun j => if j = 8 then (.int (own_i2b (own_i2b x3))) else (fun j => if j = 7 then (.int (own_i2b (own_i2b x3))) else (fun j => if j = 6 then (.int (own_i2b (own_i2b x3))) else (fun j => if j = 5 then (.int (own_i2b (own_i2b x3))) else (fun j => if j = 4 then (.int (own_i2b (own_i2b x3))) else (fun j => if j = 3 then (.int (own_i2b (own_i2b x3))) else (fun j => if j = 2 then (.int (own_i2b (own_i2b x3))) else (fun j => if j = 1 then (.int (own_i2b (own_i2b x3))) else (fun j => if j = 0 then (.int (own_i2b (own_i2b x3))) else (fun _ => (.int (0 : Int32))) j) j) j) j) j) j) j) j) j) := A10
  have ZW10 : n0 ≤ h10.size := by rw [Wr.size W10]; exact ZW9
  show own_Fin _ _ _ _ _ _ _ (T10.setTop (mkF m 70 #[.val (.long x0), .second, .val (.int x1), .val (.int x2), .val (.int x3), .val (.long (own_lushr x0 (x1 &&& (63 : Int32)))), .second, .val (.int (x2 &&& (3 : Int32))), .val (.int (own_i2b x3)), .unset, .unset, .unset] [(.ref b1)]))
  refine own_of (fun _ kk => XS.dup X10.here hx rfl (hb hby at_70) rfl rfl kk) ?_
  show own_Fin _ _ _ _ _ _ _ (T10.setTop (mkF m 71 #[.val (.long x0), .second, .val (.int x1), .val (.int x2), .val (.int x3), .val (.long (own_lushr x0 (x1 &&& (63 : Int32)))), .second, .val (.int (x2 &&& (3 : Int32))), .val (.int (own_i2b x3)), .unset, .unset, .unset] [(.ref b1), (.ref b1)]))
  refine own_of (fun _ kk => XS.bipush X10.here hx rfl (hb hby at_71) kk) ?_
  show own_Fin _ _ _ _ _ _ _ (T10.setTop (mkF m 73 #[.val (.long x0), .second, .val (.int x1), .val (.int x2), .val (.int x3), .val (.long (own_lushr x0 (x1 &&& (63 : Int32)))), .second, .val (.int (x2 &&& (3 : Int32))), .val (.int (own_i2b x3)), .unset, .unset, .unset] [(.int (9 : Int32)), (.ref b1), (.ref b1)]))
  refine own_of (fun _ kk => XS.iload X10.here hx rfl (hb hby at_73) rfl kk) ?_
  show own_Fin _ _ _ _ _ _ _ (T10.setTop (mkF m 75 #[.val (.long x0), .second, .val (.int x1), .val (.int x2), .val (.int x3), .val (.long (own_lushr x0 (x1 &&& (63 : Int32)))), .second, .val (.int (x2 &&& (3 : Int32))), .val (.int (own_i2b x3)), .unset, .unset, .unset] [(.int (own_i2b x3)), (.int (9 : Int32)), (.ref b1), (.ref b1)]))
  refine own_bastore X10 hx hZ e10 A10 N10 ge_b1 (i := 9) (by decide) (by decide) (hb hby at_75) ?_
  intro T11 h11 l11 X11 N11 e11 W11 A11
  replace A11 : own_Arf Z h11 b1 .byte 16 (fun j => if j = 9 then (.int (own_i2b (own_i2b x3))) else (fun j => if j = 8 then (.int (own_i2b (own_i2b x3))) else (fun j => if j = 7 then (.int (own_i2b (own_i2b x3))) else (fun j => if j = 6 then (.int (own_i2b (own_i2b x3))) else (fun j => if j = 5 then (.int (own_i2b (own_i2b x3))) else (fun j => if j = 4 then (.int (own_i2b (own_i2b x3))) else (fun j => if j = 3 then (.int (own_i2b (own_i2b x3))) else (fun j => if j = 2 then (.int (own_i2b (own_i2b x3))) else (fun j => if j = 1 then (.int (own_i2b (own_i2b x3))) else (fun j => if j = 0 then (.int (own_i2b (own_i2b x3))) else (fun _ => (.int (0 : Int32))) j) j) j) j) j) j) j) j) j) j) := A11
  have ZW11 : n0 ≤ h11.size := by rw [Wr.size W11]; exact ZW10
  show own_Fin _ _ _ _ _ _ _ (T11.setTop (mkF m 76 #[.val (.long x0), .second, .val (.int x1), .val (.int x2), .val (.int x3), .val (.long (own_lushr x0 (x1 &&& (63 : Int32)))), .second, .val (.int (x2 &&& (3 : Int32))), .val (.int (own_i2b x3)), .unset, .unset, .unset] [(.ref b1)]))
  refine own_of (fun _ kk => XS.dup X11.here hx rfl (hb hby at_76) rfl rfl kk) ?_
  show own_Fin _ _ _ _ _ _ _ (T11.setTop (mkF m 77 #[.val (.long x0), .second, .val (.int x1), .val (.int x2), .val (.int x3), .val (.long (own_lushr x0 (x1 &&& (63 : Int32)))), .second, .val (.int (x2 &&& (3 : Int32))), .val (.int (own_i2b x3)), .unset, .unset, .unset] [(.ref b1), (.ref b1)]))
  refine own_of (fun _ kk => XS.bipush X11.here hx rfl (hb hby at_77) kk) ?_
  show own_Fin _ _ _ _ _ _ _ (T11.setTop (mkF m 79 #[.val (.long x0), .second, .val (.int x1), .val (.int x2), .val (.int x3), .val (.long (own_lushr x0 (x1 &&& (63 : Int32)))), .second, .val (.int (x2 &&& (3 : Int32))), .val (.int (own_i2b x3)), .unset, .unset, .unset] [(.int (10 : Int32)), (.ref b1), (.ref b1)]))
  refine own_of (fun _ kk => XS.iload X11.here hx rfl (hb hby at_79) rfl kk) ?_
  show own_Fin _ _ _ _ _ _ _ (T11.setTop (mkF m 81 #[.val (.long x0), .second, .val (.int x1), .val (.int x2), .val (.int x3), .val (.long (own_lushr x0 (x1 &&& (63 : Int32)))), .second, .val (.int (x2 &&& (3 : Int32))), .val (.int (own_i2b x3)), .unset, .unset, .unset] [(.int (own_i2b x3)), (.int (10 : Int32)), (.ref b1), (.ref b1)]))
  refine own_bastore X11 hx hZ e11 A11 N11 ge_b1 (i := 10) (by decide) (by decide) (hb hby at_81) ?_
  intro T12 h12 l12 X12 N12 e12 W12 A12
  replace A12 : own_Arf Z h12 b1 .byte 16 (fun j => if j = 10 then (.int (own_i2b (own_i2b x3))) else (fun j => if j = 9 then (.int (own_i2b (own_i2b x3))) else (fun j => if j = 8 then (.int (own_i2b (own_i2b x3))) else (fun j => if j = 7 then (.int (own_i2b (own_i2b x3))) else (fun j => if j = 6 then (.int (own_i2b (own_i2b x3))) else (fun j => if j = 5 then (.int (own_i2b (own_i2b x3))) else (fun j => if j = 4 then (.int (own_i2b (own_i2b x3))) else (fun j => if j = 3 then (.int (own_i2b (own_i2b x3))) else (fun j => if j = 2 then (.int (own_i2b (own_i2b x3))) else (fun j => if j = 1 then (.int (own_i2b (own_i2b x3))) else (fun j => if j = 0 then (.int (own_i2b (own_i2b x3))) else (fun _ => (.int (0 : Int32))) j) j) j) j) j) j) j) j) j) j) j) := A12
  have ZW12 : n0 ≤ h12.size := by rw [Wr.size W12]; exact ZW11
  show own_Fin _ _ _ _ _ _ _ (T12.setTop (mkF m 82 #[.val (.long x0), .second, .val (.int x1), .val (.int x2), .val (.int x3), .val (.long (own_lushr x0 (x1 &&& (63 : Int32)))), .second, .val (.int (x2 &&& (3 : Int32))), .val (.int (own_i2b x3)), .unset, .unset, .unset] [(.ref b1)]))
  refine own_of (fun _ kk => XS.dup X12.here hx rfl (hb hby at_82) rfl rfl kk) ?_
  show own_Fin _ _ _ _ _ _ _ (T12.setTop (mkF m 83 #[.val (.long x0), .second, .val (.int x1), .val (.int x2), .val (.int x3), .val (.long (own_lushr x0 (x1 &&& (63 : Int32)))), .second, .val (.int (x2 &&& (3 : Int32))), .val (.int (own_i2b x3)), .unset, .unset, .unset] [(.ref b1), (.ref b1)]))
  refine own_of (fun _ kk => XS.bipush X12.here hx rfl (hb hby at_83) kk) ?_
  show own_Fin _ _ _ _ _ _ _ (T12.setTop (mkF m 85 #[.val (.long x0), .second, .val (.int x1), .val (.int x2), .val (.int x3), .val (.long (own_lushr x0 (x1 &&& (63 : Int32)))), .second, .val (.int (x2 &&& (3 : Int32))), .val (.int (own_i2b x3)), .unset, .unset, .unset] [(.int (11 : Int32)), (.ref b1), (.ref b1)]))
  refine own_of (fun _ kk => XS.iload X12.here hx rfl (hb hby at_85) rfl kk) ?_
  show own_Fin _ _ _ _ _ _ _ (T12.setTop (mkF m 87 #[.val (.long x0), .second, .val (.int x1), .val (.int x2), .val (.int x3), .val (.long (own_lushr x0 (x1 &&& (63 : Int32)))), .second, .val (.int (x2 &&& (3 : Int32))), .val (.int (own_i2b x3)), .unset, .unset, .unset] [(.int (own_i2b x3)), (.int (11 : Int32)), (.ref b1), (.ref b1)]))
  refine own_bastore X12 hx hZ e12 A12 N12 ge_b1 (i := 11) (by decide) (by decide) (hb hby at_87) ?_
  intro T13 h13 l13 X13 N13 e13 W13 A13
  replace A13 : own_Arf Z h13 b1 .byte 16 (fun j => if j = 11 then (.int (own_i2b (own_i2b x3))) else (fun j => if j = 10 then (.int (own_i2b (own_i2b x3))) else (fun j => if j = 9 then (.int (own_i2b (own_i2b x3))) else (fun j => if j = 8 then (.int (own_i2b (own_i2b x3))) else (fun j => if j = 7 then (.int (own_i2b (own_i2b x3))) else (fun j => if j = 6 then (.int (own_i2b (own_i2b x3))) else (fun j => if j = 5 then (.int (own_i2b (own_i2b x3))) else (fun j => if j = 4 then (.int (own_i2b (own_i2b x3))) else (fun j => if j = 3 then (.int (own_i2b (own_i2b x3))) else (fun j => if j = 2 then (.int (own_i2b (own_i2b x3))) else (fun j => if j = 1 then (.int (own_i2b (own_i2b x3))) else (fun j => if j = 0 then (.int (own_i2b (own_i2b x3))) else (fun _ => (.int (0 : Int32))) j) j) j) j) j) j) j) j) j) j) j) j) := A13
  have ZW13 : n0 ≤ h13.size := by rw [Wr.size W13]; exact ZW12
  show own_Fin _ _ _ _ _ _ _ (T13.setTop (mkF m 88 #[.val (.long x0), .second, .val (.int x1), .val (.int x2), .val (.int x3), .val (.long (own_lushr x0 (x1 &&& (63 : Int32)))), .second, .val (.int (x2 &&& (3 : Int32))), .val (.int (own_i2b x3)), .unset, .unset, .unset] [(.ref b1)]))
  refine own_of (fun _ kk => XS.dup X13.here hx rfl (hb hby at_88) rfl rfl kk) ?_
  show own_Fin _ _ _ _ _ _ _ (T13.setTop (mkF m 89 #[.val (.long x0), .second, .val (.int x1), .val (.int x2), .val (.int x3), .val (.long (own_lushr x0 (x1 &&& (63 : Int32)))), .second, .val (.int (x2 &&& (3 : Int32))), .val (.int (own_i2b x3)), .unset, .unset, .unset] [(.ref b1), (.ref b1)]))
  refine own_of (fun _ kk => XS.bipush X13.here hx rfl (hb hby at_89) kk) ?_
  show own_Fin _ _ _ _ _ _ _ (T13.setTop (mkF m 91 #[.val (.long x0), .second, .val (.int x1), .val (.int x2), .val (.int x3), .val (.long (own_lushr x0 (x1 &&& (63 : Int32)))), .second, .val (.int (x2 &&& (3 : Int32))), .val (.int (own_i2b x3)), .unset, .unset, .unset] [(.int (12 : Int32)), (.ref b1), (.ref b1)]))
  refine own_of (fun _ kk => XS.iload X13.here hx rfl (hb hby at_91) rfl kk) ?_
  show own_Fin _ _ _ _ _ _ _ (T13.setTop (mkF m 93 #[.val (.long x0), .second, .val (.int x1), .val (.int x2), .val (.int x3), .val (.long (own_lushr x0 (x1 &&& (63 : Int32)))), .second, .val (.int (x2 &&& (3 : Int32))), .val (.int (own_i2b x3)), .unset, .unset, .unset] [(.int (own_i2b x3)), (.int (12 : Int32)), (.ref b1), (.ref b1)]))
  refine own_bastore X13 hx hZ e13 A13 N13 ge_b1 (i := 12) (by decide) (by decide) (hb hby at_93) ?_
  intro T14 h14 l14 X14 N14 e14 W14 A14
  replace A14 : own_Arf Z h14 b1 .byte 16 (fun j => if j = 12 then (.int (own_i2b (own_i2b x3))) else (fun j => if j = 11 then (.int (own_i2b (own_i2b x3))) else (fun j => if j = 10 then (.int (own_i2b (own_i2b x3))) else (fun j => if j = 9 then (.int (own_i2b (own_i2b x3))) else (fun j => if j = 8 then (.int (own_i2b (own_i2b x3))) else (fun j => if j = 7 then (.int (own_i2b (own_i2b x3))) else (fun j => if j = 6 then (.int (own_i2b (own_i2b x3))) else (fun j => if j = 5 then (.int (own_i2b (own_i2b x3))) else (fun j => if j = 4 then (.int (own_i2b (own_i2b x3))) else (fun j => if j = 3 then (.int (own_i2b (own_i2b x3))) else (fun j => if j = 2 then (.int (own_i2b (own_i2b x3))) else (fun j => if j = 1 then (.int (own_i2b (own_i2b x3))) else (fun j => if j = 0 then (.int (own_i2b (own_i2b x3))) else (fun _ => (.int (0 : Int32))) j) j) j) j) j) j) j) j) j) j) j) j) j) := A14
  have ZW14 : n0 ≤ h14.size := by rw [Wr.size W14]; exact ZW13
  show own_Fin _ _ _ _ _ _ _ (T14.setTop (mkF m 94 #[.val (.long x0), .second, .val (.int x1), .val (.int x2), .val (.int x3), .val (.long (own_lushr x0 (x1 &&& (63 : Int32)))), .second, .val (.int (x2 &&& (3 : Int32))), .val (.int (own_i2b x3)), .unset, .unset, .unset] [(.ref b1)]))
  refine own_of (fun _ kk => XS.dup X14.here hx rfl (hb hby at_94) rfl rfl kk) ?_
  show own_Fin _ _ _ _ _ _ _ (T14.setTop (mkF m 95 #[.val (.long x0), .second, .val (.int x1), .val (.int x2), .val (.int x3), .val (.long (own_lushr x0 (x1 &&& (63 : Int32)))), .second, .val (.int (x2 &&& (3 : Int32))), .val (.int (own_i2b x3)), .unset, .unset, .unset] [(.ref b1), (.ref b1)]))
  refine own_of (fun _ kk => XS.bipush X14.here hx rfl (hb hby at_95) kk) ?_
  show own_Fin _ _ _ _ _ _ _ (T14.setTop (mkF m 97 #[.val (.long x0), .second, .val (.int x1), .val (.int x2), .val (.int x3), .val (.long (own_lushr x0 (x1 &&& (63 : Int32)))), .second, .val (.int (x2 &&& (3 : Int32))), .val (.int (own_i2b x3)), .unset, .unset, .unset] [(.int (13 : Int32)), (.ref b1), (.ref b1)]))
  refine own_of (fun _ kk => XS.iload X14.here hx rfl (hb hby at_97) rfl kk) ?_
  show own_Fin _ _ _ _ _ _ _ (T14.setTop (mkF m 99 #[.val (.long x0), .second, .val (.int x1), .val (.int x2), .val (.int x3), .val (.long (own_lushr x0 (x1 &&& (63 : Int32)))), .second, .val (.int (x2 &&& (3 : Int32))), .val (.int (own_i2b x3)), .unset, .unset, .unset] [(.int (own_i2b x3)), (.int (13 : Int32)), (.ref b1), (.ref b1)]))
  refine own_bastore X14 hx hZ e14 A14 N14 ge_b1 (i := 13) (by decide) (by decide) (hb hby at_99) ?_
  intro T15 h15 l15 X15 N15 e15 W15 A15
  replace A15 : own_Arf Z h15 b1 .byte 16 (fun j => if j = 13 then (.int (own_i2b (own_i2b x3))) else (fun j => if j = 12 then (.int (own_i2b (own_i2b x3))) else (fun j => if j = 11 then (.int (own_i2b (own_i2b x3))) else (fun j => if j = 10 then (.int (own_i2b (own_i2b x3))) else (fun j => if j = 9 then (.int (own_i2b (own_i2b x3))) else (fun j => if j = 8 then (.int (own_i2b (own_i2b x3))) else (fun j => if j = 7 then (.int (own_i2b (own_i2b x3))) else (fun j => if j = 6 then (.int (own_i2b (own_i2b x3))) else (fun j => if j = 5 then (.int (own_i2b (own_i2b x3))) else (fun j => if j = 4 then (.int (own_i2b (own_i2b x3))) else (fun j => if j = 3 then (.int (own_i2b (own_i2b x3))) else (fun j => if j = 2 then (.int (own_i2b (own_i2b x3))) else (fun j => if j = 1 then (.int (own_i2b (own_i2b x3))) else (fun j => if j = 0 then (.int (own_i2b (own_i2b x3))) else (fun _ => (.int (0 : Int32))) j) j) j) j) j) j) j) j) j) j) j) j) j) j) := A15
  have ZW15 : n0 ≤ h15.size := by rw [Wr.size W15]; exact ZW14
  show own_Fin _ _ _ _ _ _ _ (T15.setTop (mkF m 100 #[.val (.long x0), .second, .val (.int x1), .val (.int x2), .val (.int x3), .val (.long (own_lushr x0 (x1 &&& (63 : Int32)))), .second, .val (.int (x2 &&& (3 : Int32))), .val (.int (own_i2b x3)), .unset, .unset, .unset] [(.ref b1)]))
  refine own_of (fun _ kk => XS.dup X15.here hx rfl (hb hby at_100) rfl rfl kk) ?_
  show own_Fin _ _ _ _ _ _ _ (T15.setTop (mkF m 101 #[.val (.long x0), .second, .val (.int x1), .val (.int x2), .val (.int x3), .val (.long (own_lushr x0 (x1 &&& (63 : Int32)))), .second, .val (.int (x2 &&& (3 : Int32))), .val (.int (own_i2b x3)), .unset, .unset, .unset] [(.ref b1), (.ref b1)]))
  refine own_of (fun _ kk => XS.bipush X15.here hx rfl (hb hby at_101) kk) ?_
  show own_Fin _ _ _ _ _ _ _ (T15.setTop (mkF m 103 #[.val (.long x0), .second, .val (.int x1), .val (.int x2), .val (.int x3), .val (.long (own_lushr x0 (x1 &&& (63 : Int32)))), .second, .val (.int (x2 &&& (3 : Int32))), .val (.int (own_i2b x3)), .unset, .unset, .unset] [(.int (14 : Int32)), (.ref b1), (.ref b1)]))
  refine own_of (fun _ kk => XS.iload X15.here hx rfl (hb hby at_103) rfl kk) ?_
  show own_Fin _ _ _ _ _ _ _ (T15.setTop (mkF m 105 #[.val (.long x0), .second, .val (.int x1), .val (.int x2), .val (.int x3), .val (.long (own_lushr x0 (x1 &&& (63 : Int32)))), .second, .val (.int (x2 &&& (3 : Int32))), .val (.int (own_i2b x3)), .unset, .unset, .unset] [(.int (own_i2b x3)), (.int (14 : Int32)), (.ref b1), (.ref b1)]))
  refine own_bastore X15 hx hZ e15 A15 N15 ge_b1 (i := 14) (by decide) (by decide) (hb hby at_105) ?_
  intro T16 h16 l16 X16 N16 e16 W16 A16
  replace A16 : own_Arf Z h16 b1 .byte 16 (fun j => if j = 14 then (.int (own_i2b (own_i2b x3))) else (fun j => if j = 13 then (.int (own_i2b (own_i2b x3))) else (fun j => if j = 12 then (.int (own_i2b (own_i2b x3))) else (fun j => if j = 11 then (.int (own_i2b (own_i2b x3))) else (fun j => if j = 10 then (.int (own_i2b (own_i2b x3))) else (fun j => if j = 9 then (.int (own_i2b (own_i2b x3))) else (fun j => if j = 8 then (.int (own_i2b (own_i2b x3))) else (fun j => if j = 7 then (.int (own_i2b (own_i2b x3))) else (fun j => if j = 6 then (.int (own_i2b (own_i2b x3))) else (fun j => if j = 5 then (.int (own_i2b (own_i2b x3))) else (fun j => if j = 4 then (.int (own_i2b (own_i2b x3))) else (fun j => if j = 3 then (.int (own_i2b (own_i2b x3))) else (fun j => if j = 2 then (.int (own_i2b (own_i2b x3))) else (fun j => if j = 1 then (.int (own_i2b (own_i2b x3))) else (fun j => if j = 0 then (.int (own_i2b (own_i2b x3))) else (fun _ => (.int (0 : Int32))) j) j) j) j) j) j) j) j) j) j) j) j) j) j) j) := A16
  have ZW16 : n0 ≤ h16.size := by rw [Wr.size W16]; exact ZW15
  show own_Fin _ _ _ _ _ _ _ (T16.setTop (mkF m 106 #[.val (.long x0), .second, .val (.int x1), .val (.int x2), .val (.int x3), .val (.long (own_lushr x0 (x1 &&& (63 : Int32)))), .second, .val (.int (x2 &&& (3 : Int32))), .val (.int (own_i2b x3)), .unset, .unset, .unset] [(.ref b1)]))
  refine own_of (fun _ kk => XS.dup X16.here hx rfl (hb hby at_106) rfl rfl kk) ?_
  show own_Fin _ _ _ _ _ _ _ (T16.setTop (mkF m 107 #[.val (.long x0), .second, .val (.int x1), .val (.int x2), .val (.int x3), .val (.long (own_lushr x0 (x1 &&& (63 : Int32)))), .second, .val (.int (x2 &&& (3 : Int32))), .val (.int (own_i2b x3)), .unset, .unset, .unset] [(.ref b1), (.ref b1)]))
  refine own_of (fun _ kk => XS.bipush X16.here hx rfl (hb hby at_107) kk) ?_
  show own_Fin _ _ _ _ _ _ _ (T16.setTop (mkF m 109 #[.val (.long x0), .second, .val (.int x1), .val (.int x2), .val (.int x3), .val (.long (own_lushr x0 (x1 &&& (63 : Int32)))), .second, .val (.int (x2 &&& (3 : Int32))), .val (.int (own_i2b x3)), .unset, .unset, .unset] [(.int (15 : Int32)), (.ref b1), (.ref b1)]))
  refine own_of (fun _ kk => XS.iload X16.here hx rfl (hb hby at_109) rfl kk) ?_
  show own_Fin _ _ _ _ _ _ _ (T16.setTop (mkF m 111 #[.val (.long x0), .second, .val (.int x1), .val (.int x2), .val (.int x3), .val (.long (own_lushr x0 (x1 &&& (63 : Int32)))), .second, .val (.int (x2 &&& (3 : Int32))), .val (.int (own_i2b x3)), .unset, .unset, .unset] [(.int (own_i2b x3)), (.int (15 : Int32)), (.ref b1), (.ref b1)]))
  refine own_bastore X16 hx hZ e16 A16 N16 ge_b1 (i := 15) (by decide) (by decide) (hb hby at_111) ?_
  intro T17 h17 l17 X17 N17 e17 W17 A17
  replace A17 : own_Arf Z h17 b1 .byte 16 (fun j => if j = 15 then (.int (own_i2b (own_i2b x3))) else (fun j => if j = 14 then (.int (own_i2b (own_i2b x3))) else (fun j => if j = 13 then (.int (own_i2b (own_i2b x3))) else (fun j => if j = 12 then (.int (own_i2b (own_i2b x3))) else (fun j => if j = 11 then (.int (own_i2b (own_i2b x3))) else (fun j => if j = 10 then (.int (own_i2b (own_i2b x3))) else (fun j => if j = 9 then (.int (own_i2b (own_i2b x3))) else (fun j => if j = 8 then (.int (own_i2b (own_i2b x3))) else (fun j => if j = 7 then (.int (own_i2b (own_i2b x3))) else (fun j => if j = 6 then (.int (own_i2b (own_i2b x3))) else (fun j => if j = 5 then (.int (own_i2b (own_i2b x3))) else (fun j => if j = 4 then (.int (own_i2b (own_i2b x3))) else (fun j => if j = 3 then (.int (own_i2b (own_i2b x3))) else (fun j => if j = 2 then (.int (own_i2b (own_i2b x3))) else (fun j => if j = 1 then (.int (own_i2b (own_i2b x3))) else (fun j => if j = 0 then (.int (own_i2b (own_i2b x3))) else (fun _ => (.int (0 : Int32))) j) j) j) j) j) j) j) j) j) j) j) j) j) j) j) j) := A17
  have ZW17 : n0 ≤ h17.size := by rw [Wr.size W17]; exact ZW16
  show own_Fin _ _ _ _ _ _ _ (T17.setTop (mkF m 112 #[.val (.long x0), .second, .val (.int x1), .val (.int x2), .val (.int x3), .val (.long (own_lushr x0 (x1 &&& (63 : Int32)))), .second, .val (.int (x2 &&& (3 : Int32))), .val (.int (own_i2b x3)), .unset, .unset, .unset] [(.ref b1)]))
  refine own_of (fun _ kk => XS.astore X17.here hx rfl (hb hby at_112) rfl rfl (l' := #[.val (.long x0), .second, .val (.int x1), .val (.int x2), .val (.int x3), .val (.long (own_lushr x0 (x1 &&& (63 : Int32)))), .second, .val (.int (x2 &&& (3 : Int32))), .val (.int (own_i2b x3)), .val (.ref b1), .unset, .unset]) rfl kk) ?_
  show own_Fin _ _ _ _ _ _ _ (T17.setTop (mkF m 114 #[.val (.long x0), .second, .val (.int x1), .val (.int x2), .val (.int x3), .val (.long (own_lushr x0 (x1 &&& (63 : Int32)))), .second, .val (.int (x2 &&& (3 : Int32))), .val (.int (own_i2b x3)), .val (.ref b1), .unset, .unset] []))
  refine own_of (fun _ kk => XS.aload X17.here hx rfl (hb hby at_114) rfl rfl kk) ?_
  show own_Fin _ _ _ _ _ _ _ (T17.setTop (mkF m 116 #[.val (.long x0), .second, .val (.int x1), .val (.int x2), .val (.int x3), .val (.long (own_lushr x0 (x1 &&& (63 : Int32)))), .second, .val (.int (x2 &&& (3 : Int32))), .val (.int (own_i2b x3)), .val (.ref b1), .unset, .unset] [(.ref b1)]))
  refine own_of (fun _ kk => XS.iload X17.here hx rfl (hb hby at_116) rfl kk) ?_
  show own_Fin _ _ _ _ _ _ _ (T17.setTop (mkF m 118 #[.val (.long x0), .second, .val (.int x1), .val (.int x2), .val (.int x3), .val (.long (own_lushr x0 (x1 &&& (63 : Int32)))), .second, .val (.int (x2 &&& (3 : Int32))), .val (.int (own_i2b x3)), .val (.ref b1), .unset, .unset] [(.int (x2 &&& (3 : Int32))), (.ref b1)]))
  refine own_of (fun _ kk => XS.lload X17.here hx rfl (hb hby at_118) rfl kk) ?_
  show own_Fin _ _ _ _ _ _ _ (T17.setTop (mkF m 120 #[.val (.long x0), .second, .val (.int x1), .val (.int x2), .val (.int x3), .val (.long (own_lushr x0 (x1 &&& (63 : Int32)))), .second, .val (.int (x2 &&& (3 : Int32))), .val (.int (own_i2b x3)), .val (.ref b1), .unset, .unset] [(.long (own_lushr x0 (x1 &&& (63 : Int32)))), (.int (x2 &&& (3 : Int32))), (.ref b1)]))
  refine own_callS X17 hx hZ hown (hw _ (List.mem_of_getElem? (i := 1) rfl)) (hw _ (List.mem_of_getElem? (i := 2) rfl)) (hw _ (List.mem_of_getElem? (i := 3) rfl)) (hw _ (List.mem_of_getElem? (i := 4) rfl)) (by decide) e17 (argsL := [(.ref b1), (.int (x2 &&& (3 : Int32))), (.long (own_lushr x0 (x1 &&& (63 : Int32))))]) (met1 l Z a0 hw b1 (x2 &&& (3 : Int32)) (own_lushr x0 (x1 &&& (63 : Int32))) (x2 &&& (3 : Int32)).toInt.toNat 16 (fun _ => (own_i2b (own_i2b x3))) h17 n0 ZW17 ge_b1 (by have := (own_at x2).2; omega) (by decide) (own_at x2).1 (A17.congr fun j hj => by rcases (show j = 0 ∨ j = 1 ∨ j = 2 ∨ j = 3 ∨ j = 4 ∨ j = 5 ∨ j = 6 ∨ j = 7 ∨ j = 8 ∨ j = 9 ∨ j = 10 ∨ j = 11 ∨ j = 12 ∨ j = 13 ∨ j = 14 ∨ j = 15 by omega) with rfl | rfl | rfl | rfl | rfl | rfl | rfl | rfl | rfl | rfl | rfl | rfl | rfl | rfl | rfl | rfl <;> rfl)) (W := 0) (by decide) (by decide) (by decide) (by decide) (by rw [hml]; rfl) pd_3 rfl (rest := []) rfl (Nat.le_of_eq rfl) (hb hby at_120) ?_
  intro v18 T18 h18 L18 X18 e18 q18
  obtain ⟨k, z, rfl, N18q, Z18, hk, hz, hcs, hce, A18⟩ := q18
  have N18 := Fr.app N17 N18q
  show own_Fin _ _ _ _ _ _ _ (T18.setTop (mkF m 123 #[.val (.long x0), .second, .val (.int x1), .val (.int x2), .val (.int x3), .val (.long (own_lushr x0 (x1 &&& (63 : Int32)))), .second, .val (.int (x2 &&& (3 : Int32))), .val (.int (own_i2b x3)), .val (.ref b1), .unset, .unset] [(.int z)]))
  have hs := own_size (own_lushr x0 (x1 &&& (63 : Int32))) k hk hcs hce
  refine own_of (fun _ kk => XS.istore X18.here hx rfl (hb hby at_123) rfl (l' := #[.val (.long x0), .second, .val (.int x1), .val (.int x2), .val (.int x3), .val (.long (own_lushr x0 (x1 &&& (63 : Int32)))), .second, .val (.int (x2 &&& (3 : Int32))), .val (.int (own_i2b x3)), .val (.ref b1), .val (.int z), .unset]) rfl kk) ?_
  show own_Fin _ _ _ _ _ _ _ (T18.setTop (mkF m 125 #[.val (.long x0), .second, .val (.int x1), .val (.int x2), .val (.int x3), .val (.long (own_lushr x0 (x1 &&& (63 : Int32)))), .second, .val (.int (x2 &&& (3 : Int32))), .val (.int (own_i2b x3)), .val (.ref b1), .val (.int z), .unset] []))
  refine own_of (fun _ kk => XS.lload X18.here hx rfl (hb hby at_125) rfl kk) ?_
  show own_Fin _ _ _ _ _ _ _ (T18.setTop (mkF m 127 #[.val (.long x0), .second, .val (.int x1), .val (.int x2), .val (.int x3), .val (.long (own_lushr x0 (x1 &&& (63 : Int32)))), .second, .val (.int (x2 &&& (3 : Int32))), .val (.int (own_i2b x3)), .val (.ref b1), .val (.int z), .unset] [(.long (own_lushr x0 (x1 &&& (63 : Int32))))]))
  refine own_callP X18 hx hZ hown (hw _ (List.mem_of_getElem? (i := 6) rfl)) (hw _ (List.mem_of_getElem? (i := 7) rfl)) (hw _ (List.mem_of_getElem? (i := 8) rfl)) (hw _ (List.mem_of_getElem? (i := 9) rfl)) (by decide) e18 (argsL := [(.long (own_lushr x0 (x1 &&& (63 : Int32))))]) (rv := (.int (own_f2 (own_lushr x0 (x1 &&& (63 : Int32)))))) (met2 l Z a0 hw (own_lushr x0 (x1 &&& (63 : Int32))) h18) (W := 0) (by decide) (by decide) (by decide) (by decide) (by rw [hml]; rfl) pd_0 rfl (rest := []) rfl (Nat.le_of_eq rfl) (hb hby at_127) ?_
  intro T19 X19 e19
  show own_Fin _ _ _ _ _ _ _ (T19.setTop (mkF m 130 #[.val (.long x0), .second, .val (.int x1), .val (.int x2), .val (.int x3), .val (.long (own_lushr x0 (x1 &&& (63 : Int32)))), .second, .val (.int (x2 &&& (3 : Int32))), .val (.int (own_i2b x3)), .val (.ref b1), .val (.int z), .unset] [(.int (own_f2 (own_lushr x0 (x1 &&& (63 : Int32)))))]))
  refine own_of (fun _ kk => XS.istore X19.here hx rfl (hb hby at_130) rfl (l' := #[.val (.long x0), .second, .val (.int x1), .val (.int x2), .val (.int x3), .val (.long (own_lushr x0 (x1 &&& (63 : Int32)))), .second, .val (.int (x2 &&& (3 : Int32))), .val (.int (own_i2b x3)), .val (.ref b1), .val (.int z), .val (.int (own_f2 (own_lushr x0 (x1 &&& (63 : Int32)))))]) rfl kk) ?_
  show own_Fin _ _ _ _ _ _ _ (T19.setTop (mkF m 132 #[.val (.long x0), .second, .val (.int x1), .val (.int x2), .val (.int x3), .val (.long (own_lushr x0 (x1 &&& (63 : Int32)))), .second, .val (.int (x2 &&& (3 : Int32))), .val (.int (own_i2b x3)), .val (.ref b1), .val (.int z), .val (.int (own_f2 (own_lushr x0 (x1 &&& (63 : Int32)))))] []))
  refine own_of (fun _ kk => XS.iload X19.here hx rfl (hb hby at_132) rfl kk) ?_
  show own_Fin _ _ _ _ _ _ _ (T19.setTop (mkF m 134 #[.val (.long x0), .second, .val (.int x1), .val (.int x2), .val (.int x3), .val (.long (own_lushr x0 (x1 &&& (63 : Int32)))), .second, .val (.int (x2 &&& (3 : Int32))), .val (.int (own_i2b x3)), .val (.ref b1), .val (.int z), .val (.int (own_f2 (own_lushr x0 (x1 &&& (63 : Int32)))))] [(.int z)]))
  refine own_of (fun _ kk => XS.iload X19.here hx rfl (hb hby at_134) rfl kk) ?_
  show own_Fin _ _ _ _ _ _ _ (T19.setTop (mkF m 136 #[.val (.long x0), .second, .val (.int x1), .val (.int x2), .val (.int x3), .val (.long (own_lushr x0 (x1 &&& (63 : Int32)))), .second, .val (.int (x2 &&& (3 : Int32))), .val (.int (own_i2b x3)), .val (.ref b1), .val (.int z), .val (.int (own_f2 (own_lushr x0 (x1 &&& (63 : Int32)))))] [(.int (x2 &&& (3 : Int32))), (.int z)]))
  refine own_of (fun _ kk => XS.iload X19.here hx rfl (hb hby at_136) rfl kk) ?_
  show own_Fin _ _ _ _ _ _ _ (T19.setTop (mkF m 138 #[.val (.long x0), .second, .val (.int x1), .val (.int x2), .val (.int x3), .val (.long (own_lushr x0 (x1 &&& (63 : Int32)))), .second, .val (.int (x2 &&& (3 : Int32))), .val (.int (own_i2b x3)), .val (.ref b1), .val (.int z), .val (.int (own_f2 (own_lushr x0 (x1 &&& (63 : Int32)))))] [(.int (own_f2 (own_lushr x0 (x1 &&& (63 : Int32))))), (.int (x2 &&& (3 : Int32))), (.int z)]))
  refine own_of (fun _ kk => XS.iadd X19.here hx rfl (hb hby at_138) rfl kk) ?_
  show own_Fin _ _ _ _ _ _ _ (T19.setTop (mkF m 139 #[.val (.long x0), .second, .val (.int x1), .val (.int x2), .val (.int x3), .val (.long (own_lushr x0 (x1 &&& (63 : Int32)))), .second, .val (.int (x2 &&& (3 : Int32))), .val (.int (own_i2b x3)), .val (.ref b1), .val (.int z), .val (.int (own_f2 (own_lushr x0 (x1 &&& (63 : Int32)))))] [(.int ((x2 &&& (3 : Int32)) + (own_f2 (own_lushr x0 (x1 &&& (63 : Int32)))))), (.int z)]))
  refine own_of (fun _ kk => XS.icmpYes X19.here hx rfl (pc0 := 139) (pc' := 144) rfl (hb hby at_139) rfl (teq (own_sum z (x2 &&& (3 : Int32)) (own_f2 (own_lushr x0 (x1 &&& (63 : Int32)))) (x2 &&& (3 : Int32)).toInt.toNat k (own_at x2).1 (own_at x2).2 hk hz hs)).1 (by decide) (by decide) kk) ?_
  show own_Fin _ _ _ _ _ _ _ (T19.setTop (mkF m 144 #[.val (.long x0), .second, .val (.int x1), .val (.int x2), .val (.int x3), .val (.long (own_lushr x0 (x1 &&& (63 : Int32)))), .second, .val (.int (x2 &&& (3 : Int32))), .val (.int (own_i2b x3)), .val (.ref b1), .val (.int z), .val (.int (own_f2 (own_lushr x0 (x1 &&& (63 : Int32)))))] []))
  refine own_of (fun _ kk => XS.aload X19.here hx rfl (hb hby at_144) rfl rfl kk) ?_
  show own_Fin _ _ _ _ _ _ _ (T19.setTop (mkF m 146 #[.val (.long x0), .second, .val (.int x1), .val (.int x2), .val (.int x3), .val (.long (own_lushr x0 (x1 &&& (63 : Int32)))), .second, .val (.int (x2 &&& (3 : Int32))), .val (.int (own_i2b x3)), .val (.ref b1), .val (.int z), .val (.int (own_f2 (own_lushr x0 (x1 &&& (63 : Int32)))))] [(.ref b1)]))
  refine own_of (fun _ kk => XS.iconst X19.here hx rfl (hb hby at_146) kk) ?_
  show own_Fin _ _ _ _ _ _ _ (T19.setTop (mkF m 147 #[.val (.long x0), .second, .val (.int x1), .val (.int x2), .val (.int x3), .val (.long (own_lushr x0 (x1 &&& (63 : Int32)))), .second, .val (.int (x2 &&& (3 : Int32))), .val (.int (own_i2b x3)), .val (.ref b1), .val (.int z), .val (.int (own_f2 (own_lushr x0 (x1 &&& (63 : Int32)))))] [(.int (0 : Int32)), (.ref b1)]))
  refine own_of (fun _ kk => XS.iload X19.here hx rfl (hb hby at_147) rfl kk) ?_
  show own_Fin _ _ _ _ _ _ _ (T19.setTop (mkF m 149 #[.val (.long x0), .second, .val (.int x1), .val (.int x2), .val (.int x3), .val (.long (own_lushr x0 (x1 &&& (63 : Int32)))), .second, .val (.int (x2 &&& (3 : Int32))), .val (.int (own_i2b x3)), .val (.ref b1), .val (.int z), .val (.int (own_f2 (own_lushr x0 (x1 &&& (63 : Int32)))))] [(.int (x2 &&& (3 : Int32))), (.int (0 : Int32)), (.ref b1)]))
  refine own_of (fun _ kk => XS.lload X19.here hx rfl (hb hby at_149) rfl kk) ?_
  show own_Fin _ _ _ _ _ _ _ (T19.setTop (mkF m 151 #[.val (.long x0), .second, .val (.int x1), .val (.int x2), .val (.int x3), .val (.long (own_lushr x0 (x1 &&& (63 : Int32)))), .second, .val (.int (x2 &&& (3 : Int32))), .val (.int (own_i2b x3)), .val (.ref b1), .val (.int z), .val (.int (own_f2 (own_lushr x0 (x1 &&& (63 : Int32)))))] [(.long (own_lushr x0 (x1 &&& (63 : Int32)))), (.int (x2 &&& (3 : Int32))), (.int (0 : Int32)), (.ref b1)]))
  refine own_of (fun _ kk => XS.iload X19.here hx rfl (hb hby at_151) rfl kk) ?_
  show own_Fin _ _ _ _ _ _ _ (T19.setTop (mkF m 153 #[.val (.long x0), .second, .val (.int x1), .val (.int x2), .val (.int x3), .val (.long (own_lushr x0 (x1 &&& (63 : Int32)))), .second, .val (.int (x2 &&& (3 : Int32))), .val (.int (own_i2b x3)), .val (.ref b1), .val (.int z), .val (.int (own_f2 (own_lushr x0 (x1 &&& (63 : Int32)))))] [(.int (own_f2 (own_lushr x0 (x1 &&& (63 : Int32))))), (.long (own_lushr x0 (x1 &&& (63 : Int32)))), (.int (x2 &&& (3 : Int32))), (.int (0 : Int32)), (.ref b1)]))
  refine own_of (fun _ kk => XS.iload X19.here hx rfl (hb hby at_153) rfl kk) ?_
  show own_Fin _ _ _ _ _ _ _ (T19.setTop (mkF m 155 #[.val (.long x0), .second, .val (.int x1), .val (.int x2), .val (.int x3), .val (.long (own_lushr x0 (x1 &&& (63 : Int32)))), .second, .val (.int (x2 &&& (3 : Int32))), .val (.int (own_i2b x3)), .val (.ref b1), .val (.int z), .val (.int (own_f2 (own_lushr x0 (x1 &&& (63 : Int32)))))] [(.int (own_i2b x3)), (.int (own_f2 (own_lushr x0 (x1 &&& (63 : Int32))))), (.long (own_lushr x0 (x1 &&& (63 : Int32)))), (.int (x2 &&& (3 : Int32))), (.int (0 : Int32)), (.ref b1)]))
  refine own_callS X19 hx hZ hown (hw _ (List.mem_of_getElem? (i := 13) rfl)) (hw _ (List.mem_of_getElem? (i := 14) rfl)) (hw _ (List.mem_of_getElem? (i := 8) rfl)) (hw _ (List.mem_of_getElem? (i := 15) rfl)) (by decide) e19 (argsL := [(.ref b1), (.int (0 : Int32)), (.int (x2 &&& (3 : Int32))), (.long (own_lushr x0 (x1 &&& (63 : Int32)))), (.int (own_f2 (own_lushr x0 (x1 &&& (63 : Int32))))), (.int (own_i2b x3))]) (met4 l Z a0 hw b1 (0 : Int32) (x2 &&& (3 : Int32)) (own_lushr x0 (x1 &&& (63 : Int32))) (own_f2 (own_lushr x0 (x1 &&& (63 : Int32)))) (own_i2b x3) 16 (own_w2 (x2 &&& (3 : Int32)).toInt.toNat (own_lushr x0 (x1 &&& (63 : Int32))) (fun _ => (own_i2b (own_i2b x3))) k) 0 ((own_w2 (x2 &&& (3 : Int32)).toInt.toNat (own_lushr x0 (x1 &&& (63 : Int32))) (fun _ => (own_i2b (own_i2b x3))) k) 0) h18 n0 Z18 A18 (by decide) (by decide) rfl (own_key (own_lushr x0 (x1 &&& (63 : Int32))) (x2 &&& (3 : Int32)) (own_f2 (own_lushr x0 (x1 &&& (63 : Int32)))) (own_i2b x3) (0 : Int32) (x2 &&& (3 : Int32)).toInt.toNat k 0 (fun _ => (own_i2b (own_i2b x3))) (own_at x2).1 (own_at x2).2 hk hs (by decide) (by decide) (own_i2b_i2b x3))) (W := 0) (by decide) (by decide) (by decide) (by decide) (by rw [hml]; rfl) pd_2 rfl (rest := []) rfl (Nat.le_of_eq rfl) (hb hby at_155) ?_
  intro v20 T20 h20 L20 X20 e20 q20
  obtain ⟨rfl, qh20, rfl⟩ := q20
  rw [qh20] at e20
  have N20 := Fr.app N18 (Fr.nil n0)
  show own_Fin _ _ _ _ _ _ _ (T20.setTop (mkF m 158 #[.val (.long x0), .second, .val (.int x1), .val (.int x2), .val (.int x3), .val (.long (own_lushr x0 (x1 &&& (63 : Int32)))), .second, .val (.int (x2 &&& (3 : Int32))), .val (.int (own_i2b x3)), .val (.ref b1), .val (.int z), .val (.int (own_f2 (own_lushr x0 (x1 &&& (63 : Int32)))))] [(.int (1 : Int32))]))
  refine own_of (fun _ kk => XS.ifNo X20.here hx rfl (hb hby at_158) rfl ((if0 _ _).trans (feq (by decide : ¬ ((1 : Int32) = (0 : Int32)))).1) kk) ?_
  show own_Fin _ _ _ _ _ _ _ (T20.setTop (mkF m 161 #[.val (.long x0), .second, .val (.int x1), .val (.int x2), .val (.int x3), .val (.long (own_lushr x0 (x1 &&& (63 : Int32)))), .second, .val (.int (x2 &&& (3 : Int32))), .val (.int (own_i2b x3)), .val (.ref b1), .val (.int z), .val (.int (own_f2 (own_lushr x0 (x1 &&& (63 : Int32)))))] []))
  refine own_of (fun _ kk => XS.aload X20.here hx rfl (hb hby at_161) rfl rfl kk) ?_
  show own_Fin _ _ _ _ _ _ _ (T20.setTop (mkF m 163 #[.val (.long x0), .second, .val (.int x1), .val (.int x2), .val (.int x3), .val (.long (own_lushr x0 (x1 &&& (63 : Int32)))), .second, .val (.int (x2 &&& (3 : Int32))), .val (.int (own_i2b x3)), .val (.ref b1), .val (.int z), .val (.int (own_f2 (own_lushr x0 (x1 &&& (63 : Int32)))))] [(.ref b1)]))
  refine own_of (fun _ kk => XS.iconst X20.here hx rfl (hb hby at_163) kk) ?_
  show own_Fin _ _ _ _ _ _ _ (T20.setTop (mkF m 164 #[.val (.long x0), .second, .val (.int x1), .val (.int x2), .val (.int x3), .val (.long (own_lushr x0 (x1 &&& (63 : Int32)))), .second, .val (.int (x2 &&& (3 : Int32))), .val (.int (own_i2b x3)), .val (.ref b1), .val (.int z), .val (.int (own_f2 (own_lushr x0 (x1 &&& (63 : Int32)))))] [(.int (1 : Int32)), (.ref b1)]))
  refine own_of (fun _ kk => XS.iload X20.here hx rfl (hb hby at_164) rfl kk) ?_
  show own_Fin _ _ _ _ _ _ _ (T20.setTop (mkF m 166 #[.val (.long x0), .second, .val (.int x1), .val (.int x2), .val (.int x3), .val (.long (own_lushr x0 (x1 &&& (63 : Int32)))), .second, .val (.int (x2 &&& (3 : Int32))), .val (.int (own_i2b x3)), .val (.ref b1), .val (.int z), .val (.int (own_f2 (own_lushr x0 (x1 &&& (63 : Int32)))))] [(.int (x2 &&& (3 : Int32))), (.int (1 : Int32)), (.ref b1)]))
  refine own_of (fun _ kk => XS.lload X20.here hx rfl (hb hby at_166) rfl kk) ?_
  show own_Fin _ _ _ _ _ _ _ (T20.setTop (mkF m 168 #[.val (.long x0), .second, .val (.int x1), .val (.int x2), .val (.int x3), .val (.long (own_lushr x0 (x1 &&& (63 : Int32)))), .second, .val (.int (x2 &&& (3 : Int32))), .val (.int (own_i2b x3)), .val (.ref b1), .val (.int z), .val (.int (own_f2 (own_lushr x0 (x1 &&& (63 : Int32)))))] [(.long (own_lushr x0 (x1 &&& (63 : Int32)))), (.int (x2 &&& (3 : Int32))), (.int (1 : Int32)), (.ref b1)]))
  refine own_of (fun _ kk => XS.iload X20.here hx rfl (hb hby at_168) rfl kk) ?_
  show own_Fin _ _ _ _ _ _ _ (T20.setTop (mkF m 170 #[.val (.long x0), .second, .val (.int x1), .val (.int x2), .val (.int x3), .val (.long (own_lushr x0 (x1 &&& (63 : Int32)))), .second, .val (.int (x2 &&& (3 : Int32))), .val (.int (own_i2b x3)), .val (.ref b1), .val (.int z), .val (.int (own_f2 (own_lushr x0 (x1 &&& (63 : Int32)))))] [(.int (own_f2 (own_lushr x0 (x1 &&& (63 : Int32))))), (.long (own_lushr x0 (x1 &&& (63 : Int32)))), (.int (x2 &&& (3 : Int32))), (.int (1 : Int32)), (.ref b1)]))
  refine own_of (fun _ kk => XS.iload X20.here hx rfl (hb hby at_170) rfl kk) ?_
  show own_Fin _ _ _ _ _ _ _ (T20.setTop (mkF m 172 #[.val (.long x0), .second, .val (.int x1), .val (.int x2), .val (.int x3), .val (.long (own_lushr x0 (x1 &&& (63 : Int32)))), .second, .val (.int (x2 &&& (3 : Int32))), .val (.int (own_i2b x3)), .val (.ref b1), .val (.int z), .val (.int (own_f2 (own_lushr x0 (x1 &&& (63 : Int32)))))] [(.int (own_i2b x3)), (.int (own_f2 (own_lushr x0 (x1 &&& (63 : Int32))))), (.long (own_lushr x0 (x1 &&& (63 : Int32)))), (.int (x2 &&& (3 : Int32))), (.int (1 : Int32)), (.ref b1)]))
  refine own_callS X20 hx hZ hown (hw _ (List.mem_of_getElem? (i := 13) rfl)) (hw _ (List.mem_of_getElem? (i := 14) rfl)) (hw _ (List.mem_of_getElem? (i := 8) rfl)) (hw _ (List.mem_of_getElem? (i := 15) rfl)) (by decide) e20 (argsL := [(.ref b1), (.int (1 : Int32)), (.int (x2 &&& (3 : Int32))), (.long (own_lushr x0 (x1 &&& (63 : Int32)))), (.int (own_f2 (own_lushr x0 (x1 &&& (63 : Int32))))), (.int (own_i2b x3))]) (met4 l Z a0 hw b1 (1 : Int32) (x2 &&& (3 : Int32)) (own_lushr x0 (x1 &&& (63 : Int32))) (own_f2 (own_lushr x0 (x1 &&& (63 : Int32)))) (own_i2b x3) 16 (own_w2 (x2 &&& (3 : Int32)).toInt.toNat (own_lushr x0 (x1 &&& (63 : Int32))) (fun _ => (own_i2b (own_i2b x3))) k) 1 ((own_w2 (x2 &&& (3 : Int32)).toInt.toNat (own_lushr x0 (x1 &&& (63 : Int32))) (fun _ => (own_i2b (own_i2b x3))) k) 1) h18 n0 Z18 A18 (by decide) (by decide) rfl (own_key (own_lushr x0 (x1 &&& (63 : Int32))) (x2 &&& (3 : Int32)) (own_f2 (own_lushr x0 (x1 &&& (63 : Int32)))) (own_i2b x3) (1 : Int32) (x2 &&& (3 : Int32)).toInt.toNat k 1 (fun _ => (own_i2b (own_i2b x3))) (own_at x2).1 (own_at x2).2 hk hs (by decide) (by decide) (own_i2b_i2b x3))) (W := 0) (by decide) (by decide) (by decide) (by decide) (by rw [hml]; rfl) pd_2 rfl (rest := []) rfl (Nat.le_of_eq rfl) (hb hby at_172) ?_
  intro v21 T21 h21 L21 X21 e21 q21
  obtain ⟨rfl, qh21, rfl⟩ := q21
  rw [qh21] at e21
  have N21 := Fr.app N20 (Fr.nil n0)
  show own_Fin _ _ _ _ _ _ _ (T21.setTop (mkF m 175 #[.val (.long x0), .second, .val (.int x1), .val (.int x2), .val (.int x3), .val (.long (own_lushr x0 (x1 &&& (63 : Int32)))), .second, .val (.int (x2 &&& (3 : Int32))), .val (.int (own_i2b x3)), .val (.ref b1), .val (.int z), .val (.int (own_f2 (own_lushr x0 (x1 &&& (63 : Int32)))))] [(.int (1 : Int32))]))
  refine own_of (fun _ kk => XS.ifNo X21.here hx rfl (hb hby at_175) rfl ((if0 _ _).trans (feq (by decide : ¬ ((1 : Int32) = (0 : Int32)))).1) kk) ?_
  show own_Fin _ _ _ _ _ _ _ (T21.setTop (mkF m 178 #[.val (.long x0), .second, .val (.int x1), .val (.int x2), .val (.int x3), .val (.long (own_lushr x0 (x1 &&& (63 : Int32)))), .second, .val (.int (x2 &&& (3 : Int32))), .val (.int (own_i2b x3)), .val (.ref b1), .val (.int z), .val (.int (own_f2 (own_lushr x0 (x1 &&& (63 : Int32)))))] []))
  refine own_of (fun _ kk => XS.aload X21.here hx rfl (hb hby at_178) rfl rfl kk) ?_
  show own_Fin _ _ _ _ _ _ _ (T21.setTop (mkF m 180 #[.val (.long x0), .second, .val (.int x1), .val (.int x2), .val (.int x3), .val (.long (own_lushr x0 (x1 &&& (63 : Int32)))), .second, .val (.int (x2 &&& (3 : Int32))), .val (.int (own_i2b x3)), .val (.ref b1), .val (.int z), .val (.int (own_f2 (own_lushr x0 (x1 &&& (63 : Int32)))))] [(.ref b1)]))
  refine own_of (fun _ kk => XS.iconst X21.here hx rfl (hb hby at_180) kk) ?_
  show own_Fin _ _ _ _ _ _ _ (T21.setTop (mkF m 181 #[.val (.long x0), .second, .val (.int x1), .val (.int x2), .val (.int x3), .val (.long (own_lushr x0 (x1 &&& (63 : Int32)))), .second, .val (.int (x2 &&& (3 : Int32))), .val (.int (own_i2b x3)), .val (.ref b1), .val (.int z), .val (.int (own_f2 (own_lushr x0 (x1 &&& (63 : Int32)))))] [(.int (2 : Int32)), (.ref b1)]))
  refine own_of (fun _ kk => XS.iload X21.here hx rfl (hb hby at_181) rfl kk) ?_
  show own_Fin _ _ _ _ _ _ _ (T21.setTop (mkF m 183 #[.val (.long x0), .second, .val (.int x1), .val (.int x2), .val (.int x3), .val (.long (own_lushr x0 (x1 &&& (63 : Int32)))), .second, .val (.int (x2 &&& (3 : Int32))), .val (.int (own_i2b x3)), .val (.ref b1), .val (.int z), .val (.int (own_f2 (own_lushr x0 (x1 &&& (63 : Int32)))))] [(.int (x2 &&& (3 : Int32))), (.int (2 : Int32)), (.ref b1)]))
  refine own_of (fun _ kk => XS.lload X21.here hx rfl (hb hby at_183) rfl kk) ?_
  show own_Fin _ _ _ _ _ _ _ (T21.setTop (mkF m 185 #[.val (.long x0), .second, .val (.int x1), .val (.int x2), .val (.int x3), .val (.long (own_lushr x0 (x1 &&& (63 : Int32)))), .second, .val (.int (x2 &&& (3 : Int32))), .val (.int (own_i2b x3)), .val (.ref b1), .val (.int z), .val (.int (own_f2 (own_lushr x0 (x1 &&& (63 : Int32)))))] [(.long (own_lushr x0 (x1 &&& (63 : Int32)))), (.int (x2 &&& (3 : Int32))), (.int (2 : Int32)), (.ref b1)]))
  refine own_of (fun _ kk => XS.iload X21.here hx rfl (hb hby at_185) rfl kk) ?_
  show own_Fin _ _ _ _ _ _ _ (T21.setTop (mkF m 187 #[.val (.long x0), .second, .val (.int x1), .val (.int x2), .val (.int x3), .val (.long (own_lushr x0 (x1 &&& (63 : Int32)))), .second, .val (.int (x2 &&& (3 : Int32))), .val (.int (own_i2b x3)), .val (.ref b1), .val (.int z), .val (.int (own_f2 (own_lushr x0 (x1 &&& (63 : Int32)))))] [(.int (own_f2 (own_lushr x0 (x1 &&& (63 : Int32))))), (.long (own_lushr x0 (x1 &&& (63 : Int32)))), (.int (x2 &&& (3 : Int32))), (.int (2 : Int32)), (.ref b1)]))
  refine own_of (fun _ kk => XS.iload X21.here hx rfl (hb hby at_187) rfl kk) ?_
  show own_Fin _ _ _ _ _ _ _ (T21.setTop (mkF m 189 #[.val (.long x0), .second, .val (.int x1), .val (.int x2), .val (.int x3), .val (.long (own_lushr x0 (x1 &&& (63 : Int32)))), .second, .val (.int (x2 &&& (3 : Int32))), .val (.int (own_i2b x3)), .val (.ref b1), .val (.int z), .val (.int (own_f2 (own_lushr x0 (x1 &&& (63 : Int32)))))] [(.int (own_i2b x3)), (.int (own_f2 (own_lushr x0 (x1 &&& (63 : Int32))))), (.long (own_lushr x0 (x1 &&& (63 : Int32)))), (.int (x2 &&& (3 : Int32))), (.int (2 : Int32)), (.ref b1)]))
  refine own_callS X21 hx hZ hown (hw _ (List.mem_of_getElem? (i := 13) rfl)) (hw _ (List.mem_of_getElem? (i := 14) rfl)) (hw _ (List.mem_of_getElem? (i := 8) rfl)) (hw _ (List.mem_of_getElem? (i := 15) rfl)) (by decide) e21 (argsL := [(.ref b1), (.int (2 : Int32)), (.int (x2 &&& (3 : Int32))), (.long (own_lushr x0 (x1 &&& (63 : Int32)))), (.int (own_f2 (own_lushr x0 (x1 &&& (63 : Int32))))), (.int (own_i2b x3))]) (met4 l Z a0 hw b1 (2 : Int32) (x2 &&& (3 : Int32)) (own_lushr x0 (x1 &&& (63 : Int32))) (own_f2 (own_lushr x0 (x1 &&& (63 : Int32)))) (own_i2b x3) 16 (own_w2 (x2 &&& (3 : Int32)).toInt.toNat (own_lushr x0 (x1 &&& (63 : Int32))) (fun _ => (own_i2b (own_i2b x3))) k) 2 ((own_w2 (x2 &&& (3 : Int32)).toInt.toNat (own_lushr x0 (x1 &&& (63 : Int32))) (fun _ => (own_i2b (own_i2b x3))) k) 2) h18 n0 Z18 A18 (by decide) (by decide) rfl (own_key (own_lushr x0 (x1 &&& (63 : Int32))) (x2 &&& (3 : Int32)) (own_f2 (own_lushr x0 (x1 &&& (63 : Int32)))) (own_i2b x3) (2 : Int32) (x2 &&& (3 : Int32)).toInt.toNat k 2 (fun _ => (own_i2b (own_i2b x3))) (own_at x2).1 (own_at x2).2 hk hs (by decide) (by decide) (own_i2b_i2b x3))) (W := 0) (by decide) (by decide) (by decide) (by decide) (by rw [hml]; rfl) pd_2 rfl (rest := []) rfl (Nat.le_of_eq rfl) (hb hby at_189) ?_
  intro v22 T22 h22 L22 X22 e22 q22
  obtain ⟨rfl, qh22, rfl⟩ := q22
  rw [qh22] at e22
  have N22 := Fr.app N21 (Fr.nil n0)
  show own_Fin _ _ _ _ _ _ _ (T22.setTop (mkF m 192 #[.val (.long x0), .second, .val (.int x1), .val (.int x2), .val (.int x3), .val (.long (own_lushr x0 (x1 &&& (63 : Int32)))), .second, .val (.int (x2 &&& (3 : Int32))), .val (.int (own_i2b x3)), .val (.ref b1), .val (.int z), .val (.int (own_f2 (own_lushr x0 (x1 &&& (63 : Int32)))))] [(.int (1 : Int32))]))
  refine own_of (fun _ kk => XS.ifNo X22.here hx rfl (hb hby at_192) rfl ((if0 _ _).trans (feq (by decide : ¬ ((1 : Int32) = (0 : Int32)))).1) kk) ?_
  show own_Fin _ _ _ _ _ _ _ (T22.setTop (mkF m 195 #[.val (.long x0), .second, .val (.int x1), .val (.int x2), .val (.int x3), .val (.long (own_lushr x0 (x1 &&& (63 : Int32)))), .second, .val (.int (x2 &&& (3 : Int32))), .val (.int (own_i2b x3)), .val (.ref b1), .val (.int z), .val (.int (own_f2 (own_lushr x0 (x1 &&& (63 : Int32)))))] []))
  refine own_of (fun _ kk => XS.aload X22.here hx rfl (hb hby at_195) rfl rfl kk) ?_
  show own_Fin _ _ _ _ _ _ _ (T22.setTop (mkF m 197 #[.val (.long x0), .second, .val (.int x1), .val (.int x2), .val (.int x3), .val (.long (own_lushr x0 (x1 &&& (63 : Int32)))), .second, .val (.int (x2 &&& (3 : Int32))), .val (.int (own_i2b x3)), .val (.ref b1), .val (.int z), .val (.int (own_f2 (own_lushr x0 (x1 &&& (63 : Int32)))))] [(.ref b1)]))
  refine own_of (fun _ kk => XS.iconst X22.here hx rfl (hb hby at_197) kk) ?_
  show own_Fin _ _ _ _ _ _ _ (T22.setTop (mkF m 198 #[.val (.long x0), .second, .val (.int x1), .val (.int x2), .val (.int x3), .val (.long (own_lushr x0 (x1 &&& (63 : Int32)))), .second, .val (.int (x2 &&& (3 : Int32))), .val (.int (own_i2b x3)), .val (.ref b1), .val (.int z), .val (.int (own_f2 (own_lushr x0 (x1 &&& (63 : Int32)))))] [(.int (3 : Int32)), (.ref b1)]))
  refine own_of (fun _ kk => XS.iload X22.here hx rfl (hb hby at_198) rfl kk) ?_
  show own_Fin _ _ _ _ _ _ _ (T22.setTop (mkF m 200 #[.val (.long x0), .second, .val (.int x1), .val (.int x2), .val (.int x3), .val (.long (own_lushr x0 (x1 &&& (63 : Int32)))), .second, .val (.int (x2 &&& (3 : Int32))), .val (.int (own_i2b x3)), .val (.ref b1), .val (.int z), .val (.int (own_f2 (own_lushr x0 (x1 &&& (63 : Int32)))))] [(.int (x2 &&& (3 : Int32))), (.int (3 : Int32)), (.ref b1)]))
  refine own_of (fun _ kk => XS.lload X22.here hx rfl (hb hby at_200) rfl kk) ?_
  show own_Fin _ _ _ _ _ _ _ (T22.setTop (mkF m 202 #[.val (.long x0), .second, .val (.int x1), .val (.int x2), .val (.int x3), .val (.long (own_lushr x0 (x1 &&& (63 : Int32)))), .second, .val (.int (x2 &&& (3 : Int32))), .val (.int (own_i2b x3)), .val (.ref b1), .val (.int z), .val (.int (own_f2 (own_lushr x0 (x1 &&& (63 : Int32)))))] [(.long (own_lushr x0 (x1 &&& (63 : Int32)))), (.int (x2 &&& (3 : Int32))), (.int (3 : Int32)), (.ref b1)]))
  refine own_of (fun _ kk => XS.iload X22.here hx rfl (hb hby at_202) rfl kk) ?_
  show own_Fin _ _ _ _ _ _ _ (T22.setTop (mkF m 204 #[.val (.long x0), .second, .val (.int x1), .val (.int x2), .val (.int x3), .val (.long (own_lushr x0 (x1 &&& (63 : Int32)))), .second, .val (.int (x2 &&& (3 : Int32))), .val (.int (own_i2b x3)), .val (.ref b1), .val (.int z), .val (.int (own_f2 (own_lushr x0 (x1 &&& (63 : Int32)))))] [(.int (own_f2 (own_lushr x0 (x1 &&& (63 : Int32))))), (.long (own_lushr x0 (x1 &&& (63 : Int32)))), (.int (x2 &&& (3 : Int32))), (.int (3 : Int32)), (.ref b1)]))
  refine own_of (fun _ kk => XS.iload X22.here hx rfl (hb hby at_204) rfl kk) ?_
  show own_Fin _ _ _ _ _ _ _ (T22.setTop (mkF m 206 #[.val (.long x0), .second, .val (.int x1), .val (.int x2), .val (.int x3), .val (.long (own_lushr x0 (x1 &&& (63 : Int32)))), .second, .val (.int (x2 &&& (3 : Int32))), .val (.int (own_i2b x3)), .val (.ref b1), .val (.int z), .val (.int (own_f2 (own_lushr x0 (x1 &&& (63 : Int32)))))] [(.int (own_i2b x3)), (.int (own_f2 (own_lushr x0 (x1 &&& (63 : Int32))))), (.long (own_lushr x0 (x1 &&& (63 : Int32)))), (.int (x2 &&& (3 : Int32))), (.int (3 : Int32)), (.ref b1)]))
  refine own_callS X22 hx hZ hown (hw _ (List.mem_of_getElem? (i := 13) rfl)) (hw _ (List.mem_of_getElem? (i := 14) rfl)) (hw _ (List.mem_of_getElem? (i := 8) rfl)) (hw _ (List.mem_of_getElem? (i := 15) rfl)) (by decide) e22 (argsL := [(.ref b1), (.int (3 : Int32)), (.int (x2 &&& (3 : Int32))), (.long (own_lushr x0 (x1 &&& (63 : Int32)))), (.int (own_f2 (own_lushr x0 (x1 &&& (63 : Int32))))), (.int (own_i2b x3))]) (met4 l Z a0 hw b1 (3 : Int32) (x2 &&& (3 : Int32)) (own_lushr x0 (x1 &&& (63 : Int32))) (own_f2 (own_lushr x0 (x1 &&& (63 : Int32)))) (own_i2b x3) 16 (own_w2 (x2 &&& (3 : Int32)).toInt.toNat (own_lushr x0 (x1 &&& (63 : Int32))) (fun _ => (own_i2b (own_i2b x3))) k) 3 ((own_w2 (x2 &&& (3 : Int32)).toInt.toNat (own_lushr x0 (x1 &&& (63 : Int32))) (fun _ => (own_i2b (own_i2b x3))) k) 3) h18 n0 Z18 A18 (by decide) (by decide) rfl (own_key (own_lushr x0 (x1 &&& (63 : Int32))) (x2 &&& (3 : Int32)) (own_f2 (own_lushr x0 (x1 &&& (63 : Int32)))) (own_i2b x3) (3 : Int32) (x2 &&& (3 : Int32)).toInt.toNat k 3 (fun _ => (own_i2b (own_i2b x3))) (own_at x2).1 (own_at x2).2 hk hs (by decide) (by decide) (own_i2b_i2b x3))) (W := 0) (by decide) (by decide) (by decide) (by decide) (by rw [hml]; rfl) pd_2 rfl (rest := []) rfl (Nat.le_of_eq rfl) (hb hby at_206) ?_
  intro v23 T23 h23 L23 X23 e23 q23
  obtain ⟨rfl, qh23, rfl⟩ := q23
  rw [qh23] at e23
  have N23 := Fr.app N22 (Fr.nil n0)
  show own_Fin _ _ _ _ _ _ _ (T23.setTop (mkF m 209 #[.val (.long x0), .second, .val (.int x1), .val (.int x2), .val (.int x3), .val (.long (own_lushr x0 (x1 &&& (63 : Int32)))), .second, .val (.int (x2 &&& (3 : Int32))), .val (.int (own_i2b x3)), .val (.ref b1), .val (.int z), .val (.int (own_f2 (own_lushr x0 (x1 &&& (63 : Int32)))))] [(.int (1 : Int32))]))
  refine own_of (fun _ kk => XS.ifNo X23.here hx rfl (hb hby at_209) rfl ((if0 _ _).trans (feq (by decide : ¬ ((1 : Int32) = (0 : Int32)))).1) kk) ?_
  show own_Fin _ _ _ _ _ _ _ (T23.setTop (mkF m 212 #[.val (.long x0), .second, .val (.int x1), .val (.int x2), .val (.int x3), .val (.long (own_lushr x0 (x1 &&& (63 : Int32)))), .second, .val (.int (x2 &&& (3 : Int32))), .val (.int (own_i2b x3)), .val (.ref b1), .val (.int z), .val (.int (own_f2 (own_lushr x0 (x1 &&& (63 : Int32)))))] []))
  refine own_of (fun _ kk => XS.aload X23.here hx rfl (hb hby at_212) rfl rfl kk) ?_
  show own_Fin _ _ _ _ _ _ _ (T23.setTop (mkF m 214 #[.val (.long x0), .second, .val (.int x1), .val (.int x2), .val (.int x3), .val (.long (own_lushr x0 (x1 &&& (63 : Int32)))), .second, .val (.int (x2 &&& (3 : Int32))), .val (.int (own_i2b x3)), .val (.ref b1), .val (.int z), .val (.int (own_f2 (own_lushr x0 (x1 &&& (63 : Int32)))))] [(.ref b1)]))
  refine own_of (fun _ kk => XS.iconst X23.here hx rfl (hb hby at_214) kk) ?_
  show own_Fin _ _ _ _ _ _ _ (T23.setTop (mkF m 215 #[.val (.long x0), .second, .val (.int x1), .val (.int x2), .val (.int x3), .val (.long (own_lushr x0 (x1 &&& (63 : Int32)))), .second, .val (.int (x2 &&& (3 : Int32))), .val (.int (own_i2b x3)), .val (.ref b1), .val (.int z), .val (.int (own_f2 (own_lushr x0 (x1 &&& (63 : Int32)))))] [(.int (4 : Int32)), (.ref b1)]))
  refine own_of (fun _ kk => XS.iload X23.here hx rfl (hb hby at_215) rfl kk) ?_
  show own_Fin _ _ _ _ _ _ _ (T23.setTop (mkF m 217 #[.val (.long x0), .second, .val (.int x1), .val (.int x2), .val (.int x3), .val (.long (own_lushr x0 (x1 &&& (63 : Int32)))), .second, .val (.int (x2 &&& (3 : Int32))), .val (.int (own_i2b x3)), .val (.ref b1), .val (.int z), .val (.int (own_f2 (own_lushr x0 (x1 &&& (63 : Int32)))))] [(.int (x2 &&& (3 : Int32))), (.int (4 : Int32)), (.ref b1)]))
  refine own_of (fun _ kk => XS.lload X23.here hx rfl (hb hby at_217) rfl kk) ?_
  show own_Fin _ _ _ _ _ _ _ (T23.setTop (mkF m 219 #[.val (.long x0), .second, .val (.int x1), .val (.int x2), .val (.int x3), .val (.long (own_lushr x0 (x1 &&& (63 : Int32)))), .second, .val (.int (x2 &&& (3 : Int32))), .val (.int (own_i2b x3)), .val (.ref b1), .val (.int z), .val (.int (own_f2 (own_lushr x0 (x1 &&& (63 : Int32)))))] [(.long (own_lushr x0 (x1 &&& (63 : Int32)))), (.int (x2 &&& (3 : Int32))), (.int (4 : Int32)), (.ref b1)]))
  refine own_of (fun _ kk => XS.iload X23.here hx rfl (hb hby at_219) rfl kk) ?_
  show own_Fin _ _ _ _ _ _ _ (T23.setTop (mkF m 221 #[.val (.long x0), .second, .val (.int x1), .val (.int x2), .val (.int x3), .val (.long (own_lushr x0 (x1 &&& (63 : Int32)))), .second, .val (.int (x2 &&& (3 : Int32))), .val (.int (own_i2b x3)), .val (.ref b1), .val (.int z), .val (.int (own_f2 (own_lushr x0 (x1 &&& (63 : Int32)))))] [(.int (own_f2 (own_lushr x0 (x1 &&& (63 : Int32))))), (.long (own_lushr x0 (x1 &&& (63 : Int32)))), (.int (x2 &&& (3 : Int32))), (.int (4 : Int32)), (.ref b1)]))
  refine own_of (fun _ kk => XS.iload X23.here hx rfl (hb hby at_221) rfl kk) ?_
  show own_Fin _ _ _ _ _ _ _ (T23.setTop (mkF m 223 #[.val (.long x0), .second, .val (.int x1), .val (.int x2), .val (.int x3), .val (.long (own_lushr x0 (x1 &&& (63 : Int32)))), .second, .val (.int (x2 &&& (3 : Int32))), .val (.int (own_i2b x3)), .val (.ref b1), .val (.int z), .val (.int (own_f2 (own_lushr x0 (x1 &&& (63 : Int32)))))] [(.int (own_i2b x3)), (.int (own_f2 (own_lushr x0 (x1 &&& (63 : Int32))))), (.long (own_lushr x0 (x1 &&& (63 : Int32)))), (.int (x2 &&& (3 : Int32))), (.int (4 : Int32)), (.ref b1)]))
  refine own_callS X23 hx hZ hown (hw _ (List.mem_of_getElem? (i := 13) rfl)) (hw _ (List.mem_of_getElem? (i := 14) rfl)) (hw _ (List.mem_of_getElem? (i := 8) rfl)) (hw _ (List.mem_of_getElem? (i := 15) rfl)) (by decide) e23 (argsL := [(.ref b1), (.int (4 : Int32)), (.int (x2 &&& (3 : Int32))), (.long (own_lushr x0 (x1 &&& (63 : Int32)))), (.int (own_f2 (own_lushr x0 (x1 &&& (63 : Int32))))), (.int (own_i2b x3))]) (met4 l Z a0 hw b1 (4 : Int32) (x2 &&& (3 : Int32)) (own_lushr x0 (x1 &&& (63 : Int32))) (own_f2 (own_lushr x0 (x1 &&& (63 : Int32)))) (own_i2b x3) 16 (own_w2 (x2 &&& (3 : Int32)).toInt.toNat (own_lushr x0 (x1 &&& (63 : Int32))) (fun _ => (own_i2b (own_i2b x3))) k) 4 ((own_w2 (x2 &&& (3 : Int32)).toInt.toNat (own_lushr x0 (x1 &&& (63 : Int32))) (fun _ => (own_i2b (own_i2b x3))) k) 4) h18 n0 Z18 A18 (by decide) (by decide) rfl (own_key (own_lushr x0 (x1 &&& (63 : Int32))) (x2 &&& (3 : Int32)) (own_f2 (own_lushr x0 (x1 &&& (63 : Int32)))) (own_i2b x3) (4 : Int32) (x2 &&& (3 : Int32)).toInt.toNat k 4 (fun _ => (own_i2b (own_i2b x3))) (own_at x2).1 (own_at x2).2 hk hs (by decide) (by decide) (own_i2b_i2b x3))) (W := 0) (by decide) (by decide) (by decide) (by decide) (by rw [hml]; rfl) pd_2 rfl (rest := []) rfl (Nat.le_of_eq rfl) (hb hby at_223) ?_
  intro v24 T24 h24 L24 X24 e24 q24
  obtain ⟨rfl, qh24, rfl⟩ := q24
  rw [qh24] at e24
  have N24 := Fr.app N23 (Fr.nil n0)
  show own_Fin _ _ _ _ _ _ _ (T24.setTop (mkF m 226 #[.val (.long x0), .second, .val (.int x1), .val (.int x2), .val (.int x3), .val (.long (own_lushr x0 (x1 &&& (63 : Int32)))), .second, .val (.int (x2 &&& (3 : Int32))), .val (.int (own_i2b x3)), .val (.ref b1), .val (.int z), .val (.int (own_f2 (own_lushr x0 (x1 &&& (63 : Int32)))))] [(.int (1 : Int32))]))
  refine own_of (fun _ kk => XS.ifNo X24.here hx rfl (hb hby at_226) rfl ((if0 _ _).trans (feq (by decide : ¬ ((1 : Int32) = (0 : Int32)))).1) kk) ?_
  show own_Fin _ _ _ _ _ _ _ (T24.setTop (mkF m 229 #[.val (.long x0), .second, .val (.int x1), .val (.int x2), .val (.int x3), .val (.long (own_lushr x0 (x1 &&& (63 : Int32)))), .second, .val (.int (x2 &&& (3 : Int32))), .val (.int (own_i2b x3)), .val (.ref b1), .val (.int z), .val (.int (own_f2 (own_lushr x0 (x1 &&& (63 : Int32)))))] []))
  refine own_of (fun _ kk => XS.aload X24.here hx rfl (hb hby at_229) rfl rfl kk) ?_
  show own_Fin _ _ _ _ _ _ _ (T24.setTop (mkF m 231 #[.val (.long x0), .second, .val (.int x1), .val (.int x2), .val (.int x3), .val (.long (own_lushr x0 (x1 &&& (63 : Int32)))), .second, .val (.int (x2 &&& (3 : Int32))), .val (.int (own_i2b x3)), .val (.ref b1), .val (.int z), .val (.int (own_f2 (own_lushr x0 (x1 &&& (63 : Int32)))))] [(.ref b1)]))
  refine own_of (fun _ kk => XS.iconst X24.here hx rfl (hb hby at_231) kk) ?_
  show own_Fin _ _ _ _ _ _ _ (T24.setTop (mkF m 232 #[.val (.long x0), .second, .val (.int x1), .val (.int x2), .val (.int x3), .val (.long (own_lushr x0 (x1 &&& (63 : Int32)))), .second, .val (.int (x2 &&& (3 : Int32))), .val (.int (own_i2b x3)), .val (.ref b1), .val (.int z), .val (.int (own_f2 (own_lushr x0 (x1 &&& (63 : Int32)))))] [(.int (5 : Int32)), (.ref b1)]))
  refine own_of (fun _ kk => XS.iload X24.here hx rfl (hb hby at_232) rfl kk) ?_
  show own_Fin _ _ _ _ _ _ _ (T24.setTop (mkF m 234 #[.val (.long x0), .second, .val (.int x1), .val (.int x2), .val (.int x3), .val (.long (own_lushr x0 (x1 &&& (63 : Int32)))), .second, .val (.int (x2 &&& (3 : Int32))), .val (.int (own_i2b x3)), .val (.ref b1), .val (.int z), .val (.int (own_f2 (own_lushr x0 (x1 &&& (63 : Int32)))))] [(.int (x2 &&& (3 : Int32))), (.int (5 : Int32)), (.ref b1)]))
  refine own_of (fun _ kk => XS.lload X24.here hx rfl (hb hby at_234) rfl kk) ?_
  show own_Fin _ _ _ _ _ _ _ (T24.setTop (mkF m 236 #[.val (.long x0), .second, .val (.int x1), .val (.int x2), .val (.int x3), .val (.long (own_lushr x0 (x1 &&& (63 : Int32)))), .second, .val (.int (x2 &&& (3 : Int32))), .val (.int (own_i2b x3)), .val (.ref b1), .val (.int z), .val (.int (own_f2 (own_lushr x0 (x1 &&& (63 : Int32)))))] [(.long (own_lushr x0 (x1 &&& (63 : Int32)))), (.int (x2 &&& (3 : Int32))), (.int (5 : Int32)), (.ref b1)]))
  refine own_of (fun _ kk => XS.iload X24.here hx rfl (hb hby at_236) rfl kk) ?_
  show own_Fin _ _ _ _ _ _ _ (T24.setTop (mkF m 238 #[.val (.long x0), .second, .val (.int x1), .val (.int x2), .val (.int x3), .val (.long (own_lushr x0 (x1 &&& (63 : Int32)))), .second, .val (.int (x2 &&& (3 : Int32))), .val (.int (own_i2b x3)), .val (.ref b1), .val (.int z), .val (.int (own_f2 (own_lushr x0 (x1 &&& (63 : Int32)))))] [(.int (own_f2 (own_lushr x0 (x1 &&& (63 : Int32))))), (.long (own_lushr x0 (x1 &&& (63 : Int32)))), (.int (x2 &&& (3 : Int32))), (.int (5 : Int32)), (.ref b1)]))
  refine own_of (fun _ kk => XS.iload X24.here hx rfl (hb hby at_238) rfl kk) ?_
  show own_Fin _ _ _ _ _ _ _ (T24.setTop (mkF m 240 #[.val (.long x0), .second, .val (.int x1), .val (.int x2), .val (.int x3), .val (.long (own_lushr x0 (x1 &&& (63 : Int32)))), .second, .val (.int (x2 &&& (3 : Int32))), .val (.int (own_i2b x3)), .val (.ref b1), .val (.int z), .val (.int (own_f2 (own_lushr x0 (x1 &&& (63 : Int32)))))] [(.int (own_i2b x3)), (.int (own_f2 (own_lushr x0 (x1 &&& (63 : Int32))))), (.long (own_lushr x0 (x1 &&& (63 : Int32)))), (.int (x2 &&& (3 : Int32))), (.int (5 : Int32)), (.ref b1)]))
  refine own_callS X24 hx hZ hown (hw _ (List.mem_of_getElem? (i := 13) rfl)) (hw _ (List.mem_of_getElem? (i := 14) rfl)) (hw _ (List.mem_of_getElem? (i := 8) rfl)) (hw _ (List.mem_of_getElem? (i := 15) rfl)) (by decide) e24 (argsL := [(.ref b1), (.int (5 : Int32)), (.int (x2 &&& (3 : Int32))), (.long (own_lushr x0 (x1 &&& (63 : Int32)))), (.int (own_f2 (own_lushr x0 (x1 &&& (63 : Int32))))), (.int (own_i2b x3))]) (met4 l Z a0 hw b1 (5 : Int32) (x2 &&& (3 : Int32)) (own_lushr x0 (x1 &&& (63 : Int32))) (own_f2 (own_lushr x0 (x1 &&& (63 : Int32)))) (own_i2b x3) 16 (own_w2 (x2 &&& (3 : Int32)).toInt.toNat (own_lushr x0 (x1 &&& (63 : Int32))) (fun _ => (own_i2b (own_i2b x3))) k) 5 ((own_w2 (x2 &&& (3 : Int32)).toInt.toNat (own_lushr x0 (x1 &&& (63 : Int32))) (fun _ => (own_i2b (own_i2b x3))) k) 5) h18 n0 Z18 A18 (by decide) (by decide) rfl (own_key (own_lushr x0 (x1 &&& (63 : Int32))) (x2 &&& (3 : Int32)) (own_f2 (own_lushr x0 (x1 &&& (63 : Int32)))) (own_i2b x3) (5 : Int32) (x2 &&& (3 : Int32)).toInt.toNat k 5 (fun _ => (own_i2b (own_i2b x3))) (own_at x2).1 (own_at x2).2 hk hs (by decide) (by decide) (own_i2b_i2b x3))) (W := 0) (by decide) (by decide) (by decide) (by decide) (by rw [hml]; rfl) pd_2 rfl (rest := []) rfl (Nat.le_of_eq rfl) (hb hby at_240) ?_
  intro v25 T25 h25 L25 X25 e25 q25
  obtain ⟨rfl, qh25, rfl⟩ := q25
  rw [qh25] at e25
  have N25 := Fr.app N24 (Fr.nil n0)
  show own_Fin _ _ _ _ _ _ _ (T25.setTop (mkF m 243 #[.val (.long x0), .second, .val (.int x1), .val (.int x2), .val (.int x3), .val (.long (own_lushr x0 (x1 &&& (63 : Int32)))), .second, .val (.int (x2 &&& (3 : Int32))), .val (.int (own_i2b x3)), .val (.ref b1), .val (.int z), .val (.int (own_f2 (own_lushr x0 (x1 &&& (63 : Int32)))))] [(.int (1 : Int32))]))
  refine own_of (fun _ kk => XS.ifNo X25.here hx rfl (hb hby at_243) rfl ((if0 _ _).trans (feq (by decide : ¬ ((1 : Int32) = (0 : Int32)))).1) kk) ?_
  show own_Fin _ _ _ _ _ _ _ (T25.setTop (mkF m 246 #[.val (.long x0), .second, .val (.int x1), .val (.int x2), .val (.int x3), .val (.long (own_lushr x0 (x1 &&& (63 : Int32)))), .second, .val (.int (x2 &&& (3 : Int32))), .val (.int (own_i2b x3)), .val (.ref b1), .val (.int z), .val (.int (own_f2 (own_lushr x0 (x1 &&& (63 : Int32)))))] []))
  refine own_of (fun _ kk => XS.aload X25.here hx rfl (hb hby at_246) rfl rfl kk) ?_
  show own_Fin _ _ _ _ _ _ _ (T25.setTop (mkF m 248 #[.val (.long x0), .second, .val (.int x1), .val (.int x2), .val (.int x3), .val (.long (own_lushr x0 (x1 &&& (63 : Int32)))), .second, .val (.int (x2 &&& (3 : Int32))), .val (.int (own_i2b x3)), .val (.ref b1), .val (.int z), .val (.int (own_f2 (own_lushr x0 (x1 &&& (63 : Int32)))))] [(.ref b1)]))
  refine own_of (fun _ kk => XS.bipush X25.here hx rfl (hb hby at_248) kk) ?_
  show own_Fin _ _ _ _ _ _ _ (T25.setTop (mkF m 250 #[.val (.long x0), .second, .val (.int x1), .val (.int x2), .val (.int x3), .val (.long (own_lushr x0 (x1 &&& (63 : Int32)))), .second, .val (.int (x2 &&& (3 : Int32))), .val (.int (own_i2b x3)), .val (.ref b1), .val (.int z), .val (.int (own_f2 (own_lushr x0 (x1 &&& (63 : Int32)))))] [(.int (6 : Int32)), (.ref b1)]))
  refine own_of (fun _ kk => XS.iload X25.here hx rfl (hb hby at_250) rfl kk) ?_
  show own_Fin _ _ _ _ _ _ _ (T25.setTop (mkF m 252 #[.val (.long x0), .second, .val (.int x1), .val (.int x2), .val (.int x3), .val (.long (own_lushr x0 (x1 &&& (63 : Int32)))), .second, .val (.int (x2 &&& (3 : Int32))), .val (.int (own_i2b x3)), .val (.ref b1), .val (.int z), .val (.int (own_f2 (own_lushr x0 (x1 &&& (63 : Int32)))))] [(.int (x2 &&& (3 : Int32))), (.int (6 : Int32)), (.ref b1)]))
  refine own_of (fun _ kk => XS.lload X25.here hx rfl (hb hby at_252) rfl kk) ?_
  show own_Fin _ _ _ _ _ _ _ (T25.setTop (mkF m 254 #[.val (.long x0), .second, .val (.int x1), .val (.int x2), .val (.int x3), .val (.long (own_lushr x0 (x1 &&& (63 : Int32)))), .second, .val (.int (x2 &&& (3 : Int32))), .val (.int (own_i2b x3)), .val (.ref b1), .val (.int z), .val (.int (own_f2 (own_lushr x0 (x1 &&& (63 : Int32)))))] [(.long (own_lushr x0 (x1 &&& (63 : Int32)))), (.int (x2 &&& (3 : Int32))), (.int (6 : Int32)), (.ref b1)]))
  refine own_of (fun _ kk => XS.iload X25.here hx rfl (hb hby at_254) rfl kk) ?_
  show own_Fin _ _ _ _ _ _ _ (T25.setTop (mkF m 256 #[.val (.long x0), .second, .val (.int x1), .val (.int x2), .val (.int x3), .val (.long (own_lushr x0 (x1 &&& (63 : Int32)))), .second, .val (.int (x2 &&& (3 : Int32))), .val (.int (own_i2b x3)), .val (.ref b1), .val (.int z), .val (.int (own_f2 (own_lushr x0 (x1 &&& (63 : Int32)))))] [(.int (own_f2 (own_lushr x0 (x1 &&& (63 : Int32))))), (.long (own_lushr x0 (x1 &&& (63 : Int32)))), (.int (x2 &&& (3 : Int32))), (.int (6 : Int32)), (.ref b1)]))
  refine own_of (fun _ kk => XS.iload X25.here hx rfl (hb hby at_256) rfl kk) ?_
  show own_Fin _ _ _ _ _ _ _ (T25.setTop (mkF m 258 #[.val (.long x0), .second, .val (.int x1), .val (.int x2), .val (.int x3), .val (.long (own_lushr x0 (x1 &&& (63 : Int32)))), .second, .val (.int (x2 &&& (3 : Int32))), .val (.int (own_i2b x3)), .val (.ref b1), .val (.int z), .val (.int (own_f2 (own_lushr x0 (x1 &&& (63 : Int32)))))] [(.int (own_i2b x3)), (.int (own_f2 (own_lushr x0 (x1 &&& (63 : Int32))))), (.long (own_lushr x0 (x1 &&& (63 : Int32)))), (.int (x2 &&& (3 : Int32))), (.int (6 : Int32)), (.ref b1)]))
  refine own_callS X25 hx hZ hown (hw _ (List.mem_of_getElem? (i := 13) rfl)) (hw _ (List.mem_of_getElem? (i := 14) rfl)) (hw _ (List.mem_of_getElem? (i := 8) rfl)) (hw _ (List.mem_of_getElem? (i := 15) rfl)) (by decide) e25 (argsL := [(.ref b1), (.int (6 : Int32)), (.int (x2 &&& (3 : Int32))), (.long (own_lushr x0 (x1 &&& (63 : Int32)))), (.int (own_f2 (own_lushr x0 (x1 &&& (63 : Int32))))), (.int (own_i2b x3))]) (met4 l Z a0 hw b1 (6 : Int32) (x2 &&& (3 : Int32)) (own_lushr x0 (x1 &&& (63 : Int32))) (own_f2 (own_lushr x0 (x1 &&& (63 : Int32)))) (own_i2b x3) 16 (own_w2 (x2 &&& (3 : Int32)).toInt.toNat (own_lushr x0 (x1 &&& (63 : Int32))) (fun _ => (own_i2b (own_i2b x3))) k) 6 ((own_w2 (x2 &&& (3 : Int32)).toInt.toNat (own_lushr x0 (x1 &&& (63 : Int32))) (fun _ => (own_i2b (own_i2b x3))) k) 6) h18 n0 Z18 A18 (by decide) (by decide) rfl (own_key (own_lushr x0 (x1 &&& (63 : Int32))) (x2 &&& (3 : Int32)) (own_f2 (own_lushr x0 (x1 &&& (63 : Int32)))) (own_i2b x3) (6 : Int32) (x2 &&& (3 : Int32)).toInt.toNat k 6 (fun _ => (own_i2b (own_i2b x3))) (own_at x2).1 (own_at x2).2 hk hs (by decide) (by decide) (own_i2b_i2b x3))) (W := 0) (by decide) (by decide) (by decide) (by decide) (by rw [hml]; rfl) pd_2 rfl (rest := []) rfl (Nat.le_of_eq rfl) (hb hby at_258) ?_
  intro v26 T26 h26 L26 X26 e26 q26
  obtain ⟨rfl, qh26, rfl⟩ := q26
  rw [qh26] at e26
  have N26 := Fr.app N25 (Fr.nil n0)
  show own_Fin _ _ _ _ _ _ _ (T26.setTop (mkF m 261 #[.val (.long x0), .second, .val (.int x1), .val (.int x2), .val (.int x3), .val (.long (own_lushr x0 (x1 &&& (63 : Int32)))), .second, .val (.int (x2 &&& (3 : Int32))), .val (.int (own_i2b x3)), .val (.ref b1), .val (.int z), .val (.int (own_f2 (own_lushr x0 (x1 &&& (63 : Int32)))))] [(.int (1 : Int32))]))
  refine own_of (fun _ kk => XS.ifNo X26.here hx rfl (hb hby at_261) rfl ((if0 _ _).trans (feq (by decide : ¬ ((1 : Int32) = (0 : Int32)))).1) kk) ?_
  show own_Fin _ _ _ _ _ _ _ (T26.setTop (mkF m 264 #[.val (.long x0), .second, .val (.int x1), .val (.int x2), .val (.int x3), .val (.long (own_lushr x0 (x1 &&& (63 : Int32)))), .second, .val (.int (x2 &&& (3 : Int32))), .val (.int (own_i2b x3)), .val (.ref b1), .val (.int z), .val (.int (own_f2 (own_lushr x0 (x1 &&& (63 : Int32)))))] []))
  refine own_of (fun _ kk => XS.aload X26.here hx rfl (hb hby at_264) rfl rfl kk) ?_
  show own_Fin _ _ _ _ _ _ _ (T26.setTop (mkF m 266 #[.val (.long x0), .second, .val (.int x1), .val (.int x2), .val (.int x3), .val (.long (own_lushr x0 (x1 &&& (63 : Int32)))), .second, .val (.int (x2 &&& (3 : Int32))), .val (.int (own_i2b x3)), .val (.ref b1), .val (.int z), .val (.int (own_f2 (own_lushr x0 (x1 &&& (63 : Int32)))))] [(.ref b1)]))
  refine own_of (fun _ kk => XS.bipush X26.here hx rfl (hb hby at_266) kk) ?_
  show own_Fin _ _ _ _ _ _ _ (T26.setTop (mkF m 268 #[.val (.long x0), .second, .val (.int x1), .val (.int x2), .val (.int x3), .val (.long (own_lushr x0 (x1 &&& (63 : Int32)))), .second, .val (.int (x2 &&& (3 : Int32))), .val (.int (own_i2b x3)), .val (.ref b1), .val (.int z), .val (.int (own_f2 (own_lushr x0 (x1 &&& (63 : Int32)))))] [(.int (7 : Int32)), (.ref b1)]))
  refine own_of (fun _ kk => XS.iload X26.here hx rfl (hb hby at_268) rfl kk) ?_
  show own_Fin _ _ _ _ _ _ _ (T26.setTop (mkF m 270 #[.val (.long x0), .second, .val (.int x1), .val (.int x2), .val (.int x3), .val (.long (own_lushr x0 (x1 &&& (63 : Int32)))), .second, .val (.int (x2 &&& (3 : Int32))), .val (.int (own_i2b x3)), .val (.ref b1), .val (.int z), .val (.int (own_f2 (own_lushr x0 (x1 &&& (63 : Int32)))))] [(.int (x2 &&& (3 : Int32))), (.int (7 : Int32)), (.ref b1)]))
  refine own_of (fun _ kk => XS.lload X26.here hx rfl (hb hby at_270) rfl kk) ?_
  show own_Fin _ _ _ _ _ _ _ (T26.setTop (mkF m 272 #[.val (.long x0), .second, .val (.int x1), .val (.int x2), .val (.int x3), .val (.long (own_lushr x0 (x1 &&& (63 : Int32)))), .second, .val (.int (x2 &&& (3 : Int32))), .val (.int (own_i2b x3)), .val (.ref b1), .val (.int z), .val (.int (own_f2 (own_lushr x0 (x1 &&& (63 : Int32)))))] [(.long (own_lushr x0 (x1 &&& (63 : Int32)))), (.int (x2 &&& (3 : Int32))), (.int (7 : Int32)), (.ref b1)]))
  refine own_of (fun _ kk => XS.iload X26.here hx rfl (hb hby at_272) rfl kk) ?_
  show own_Fin _ _ _ _ _ _ _ (T26.setTop (mkF m 274 #[.val (.long x0), .second, .val (.int x1), .val (.int x2), .val (.int x3), .val (.long (own_lushr x0 (x1 &&& (63 : Int32)))), .second, .val (.int (x2 &&& (3 : Int32))), .val (.int (own_i2b x3)), .val (.ref b1), .val (.int z), .val (.int (own_f2 (own_lushr x0 (x1 &&& (63 : Int32)))))] [(.int (own_f2 (own_lushr x0 (x1 &&& (63 : Int32))))), (.long (own_lushr x0 (x1 &&& (63 : Int32)))), (.int (x2 &&& (3 : Int32))), (.int (7 : Int32)), (.ref b1)]))
  refine own_of (fun _ kk => XS.iload X26.here hx rfl (hb hby at_274) rfl kk) ?_
  show own_Fin _ _ _ _ _ _ _ (T26.setTop (mkF m 276 #[.val (.long x0), .second, .val (.int x1), .val (.int x2), .val (.int x3), .val (.long (own_lushr x0 (x1 &&& (63 : Int32)))), .second, .val (.int (x2 &&& (3 : Int32))), .val (.int (own_i2b x3)), .val (.ref b1), .val (.int z), .val (.int (own_f2 (own_lushr x0 (x1 &&& (63 : Int32)))))] [(.int (own_i2b x3)), (.int (own_f2 (own_lushr x0 (x1 &&& (63 : Int32))))), (.long (own_lushr x0 (x1 &&& (63 : Int32)))), (.int (x2 &&& (3 : Int32))), (.int (7 : Int32)), (.ref b1)]))
  refine own_callS X26 hx hZ hown (hw _ (List.mem_of_getElem? (i := 13) rfl)) (hw _ (List.mem_of_getElem? (i := 14) rfl)) (hw _ (List.mem_of_getElem? (i := 8) rfl)) (hw _ (List.mem_of_getElem? (i := 15) rfl)) (by decide) e26 (argsL := [(.ref b1), (.int (7 : Int32)), (.int (x2 &&& (3 : Int32))), (.long (own_lushr x0 (x1 &&& (63 : Int32)))), (.int (own_f2 (own_lushr x0 (x1 &&& (63 : Int32))))), (.int (own_i2b x3))]) (met4 l Z a0 hw b1 (7 : Int32) (x2 &&& (3 : Int32)) (own_lushr x0 (x1 &&& (63 : Int32))) (own_f2 (own_lushr x0 (x1 &&& (63 : Int32)))) (own_i2b x3) 16 (own_w2 (x2 &&& (3 : Int32)).toInt.toNat (own_lushr x0 (x1 &&& (63 : Int32))) (fun _ => (own_i2b (own_i2b x3))) k) 7 ((own_w2 (x2 &&& (3 : Int32)).toInt.toNat (own_lushr x0 (x1 &&& (63 : Int32))) (fun _ => (own_i2b (own_i2b x3))) k) 7) h18 n0 Z18 A18 (by decide) (by decide) rfl (own_key (own_lushr x0 (x1 &&& (63 : Int32))) (x2 &&& (3 : Int32)) (own_f2 (own_lushr x0 (x1 &&& (63 : Int32)))) (own_i2b x3) (7 : Int32) (x2 &&& (3 : Int32)).toInt.toNat k 7 (fun _ => (own_i2b (own_i2b x3))) (own_at x2).1 (own_at x2).2 hk hs (by decide) (by decide) (own_i2b_i2b x3))) (W := 0) (by decide) (by decide) (by decide) (by decide) (by rw [hml]; rfl) pd_2 rfl (rest := []) rfl (Nat.le_of_eq rfl) (hb hby at_276) ?_
  intro v27 T27 h27 L27 X27 e27 q27
  obtain ⟨rfl, qh27, rfl⟩ := q27
  rw [qh27] at e27
  have N27 := Fr.app N26 (Fr.nil n0)
  show own_Fin _ _ _ _ _ _ _ (T27.setTop (mkF m 279 #[.val (.long x0), .second, .val (.int x1), .val (.int x2), .val (.int x3), .val (.long (own_lushr x0 (x1 &&& (63 : Int32)))), .second, .val (.int (x2 &&& (3 : Int32))), .val (.int (own_i2b x3)), .val (.ref b1), .val (.int z), .val (.int (own_f2 (own_lushr x0 (x1 &&& (63 : Int32)))))] [(.int (1 : Int32))]))
  refine own_of (fun _ kk => XS.ifNo X27.here hx rfl (hb hby at_279) rfl ((if0 _ _).trans (feq (by decide : ¬ ((1 : Int32) = (0 : Int32)))).1) kk) ?_
  show own_Fin _ _ _ _ _ _ _ (T27.setTop (mkF m 282 #[.val (.long x0), .second, .val (.int x1), .val (.int x2), .val (.int x3), .val (.long (own_lushr x0 (x1 &&& (63 : Int32)))), .second, .val (.int (x2 &&& (3 : Int32))), .val (.int (own_i2b x3)), .val (.ref b1), .val (.int z), .val (.int (own_f2 (own_lushr x0 (x1 &&& (63 : Int32)))))] []))
  refine own_of (fun _ kk => XS.aload X27.here hx rfl (hb hby at_282) rfl rfl kk) ?_
  show own_Fin _ _ _ _ _ _ _ (T27.setTop (mkF m 284 #[.val (.long x0), .second, .val (.int x1), .val (.int x2), .val (.int x3), .val (.long (own_lushr x0 (x1 &&& (63 : Int32)))), .second, .val (.int (x2 &&& (3 : Int32))), .val (.int (own_i2b x3)), .val (.ref b1), .val (.int z), .val (.int (own_f2 (own_lushr x0 (x1 &&& (63 : Int32)))))] [(.ref b1)]))
  refine own_of (fun _ kk => XS.bipush X27.here hx rfl (hb hby at_284) kk) ?_
  show own_Fin _ _ _ _ _ _ _ (T27.setTop (mkF m 286 #[.val (.long x0), .second, .val (.int x1), .val (.int x2), .val (.int x3), .val (.long (own_lushr x0 (x1 &&& (63 : Int32)))), .second, .val (.int (x2 &&& (3 : Int32))), .val (.int (own_i2b x3)), .val (.ref b1), .val (.int z), .val (.int (own_f2 (own_lushr x0 (x1 &&& (63 : Int32)))))] [(.int (8 : Int32)), (.ref b1)]))
  refine own_of (fun _ kk => XS.iload X27.here hx rfl (hb hby at_286) rfl kk) ?_
  show own_Fin _ _ _ _ _ _ _ (T27.setTop (mkF m 288 #[.val (.long x0), .second, .val (.int x1), .val (.int x2), .val (.int x3), .val (.long (own_lushr x0 (x1 &&& (63 : Int32)))), .second, .val (.int (x2 &&& (3 : Int32))), .val (.int (own_i2b x3)), .val (.ref b1), .val (.int z), .val (.int (own_f2 (own_lushr x0 (x1 &&& (63 : Int32)))))] [(.int (x2 &&& (3 : Int32))), (.int (8 : Int32)), (.ref b1)]))
  refine own_of (fun _ kk => XS.lload X27.here hx rfl (hb hby at_288) rfl kk) ?_
  show own_Fin _ _ _ _ _ _ _ (T27.setTop (mkF m 290 #[.val (.long x0), .second, .val (.int x1), .val (.int x2), .val (.int x3), .val (.long (own_lushr x0 (x1 &&& (63 : Int32)))), .second, .val (.int (x2 &&& (3 : Int32))), .val (.int (own_i2b x3)), .val (.ref b1), .val (.int z), .val (.int (own_f2 (own_lushr x0 (x1 &&& (63 : Int32)))))] [(.long (own_lushr x0 (x1 &&& (63 : Int32)))), (.int (x2 &&& (3 : Int32))), (.int (8 : Int32)), (.ref b1)]))
  refine own_of (fun _ kk => XS.iload X27.here hx rfl (hb hby at_290) rfl kk) ?_
  show own_Fin _ _ _ _ _ _ _ (T27.setTop (mkF m 292 #[.val (.long x0), .second, .val (.int x1), .val (.int x2), .val (.int x3), .val (.long (own_lushr x0 (x1 &&& (63 : Int32)))), .second, .val (.int (x2 &&& (3 : Int32))), .val (.int (own_i2b x3)), .val (.ref b1), .val (.int z), .val (.int (own_f2 (own_lushr x0 (x1 &&& (63 : Int32)))))] [(.int (own_f2 (own_lushr x0 (x1 &&& (63 : Int32))))), (.long (own_lushr x0 (x1 &&& (63 : Int32)))), (.int (x2 &&& (3 : Int32))), (.int (8 : Int32)), (.ref b1)]))
  refine own_of (fun _ kk => XS.iload X27.here hx rfl (hb hby at_292) rfl kk) ?_
  show own_Fin _ _ _ _ _ _ _ (T27.setTop (mkF m 294 #[.val (.long x0), .second, .val (.int x1), .val (.int x2), .val (.int x3), .val (.long (own_lushr x0 (x1 &&& (63 : Int32)))), .second, .val (.int (x2 &&& (3 : Int32))), .val (.int (own_i2b x3)), .val (.ref b1), .val (.int z), .val (.int (own_f2 (own_lushr x0 (x1 &&& (63 : Int32)))))] [(.int (own_i2b x3)), (.int (own_f2 (own_lushr x0 (x1 &&& (63 : Int32))))), (.long (own_lushr x0 (x1 &&& (63 : Int32)))), (.int (x2 &&& (3 : Int32))), (.int (8 : Int32)), (.ref b1)]))
  refine own_callS X27 hx hZ hown (hw _ (List.mem_of_getElem? (i := 13) rfl)) (hw _ (List.mem_of_getElem? (i := 14) rfl)) (hw _ (List.mem_of_getElem? (i := 8) rfl)) (hw _ (List.mem_of_getElem? (i := 15) rfl)) (by decide) e27 (argsL := [(.ref b1), (.int (8 : Int32)), (.int (x2 &&& (3 : Int32))), (.long (own_lushr x0 (x1 &&& (63 : Int32)))), (.int (own_f2 (own_lushr x0 (x1 &&& (63 : Int32))))), (.int (own_i2b x3))]) (met4 l Z a0 hw b1 (8 : Int32) (x2 &&& (3 : Int32)) (own_lushr x0 (x1 &&& (63 : Int32))) (own_f2 (own_lushr x0 (x1 &&& (63 : Int32)))) (own_i2b x3) 16 (own_w2 (x2 &&& (3 : Int32)).toInt.toNat (own_lushr x0 (x1 &&& (63 : Int32))) (fun _ => (own_i2b (own_i2b x3))) k) 8 ((own_w2 (x2 &&& (3 : Int32)).toInt.toNat (own_lushr x0 (x1 &&& (63 : Int32))) (fun _ => (own_i2b (own_i2b x3))) k) 8) h18 n0 Z18 A18 (by decide) (by decide) rfl (own_key (own_lushr x0 (x1 &&& (63 : Int32))) (x2 &&& (3 : Int32)) (own_f2 (own_lushr x0 (x1 &&& (63 : Int32)))) (own_i2b x3) (8 : Int32) (x2 &&& (3 : Int32)).toInt.toNat k 8 (fun _ => (own_i2b (own_i2b x3))) (own_at x2).1 (own_at x2).2 hk hs (by decide) (by decide) (own_i2b_i2b x3))) (W := 0) (by decide) (by decide) (by decide) (by decide) (by rw [hml]; rfl) pd_2 rfl (rest := []) rfl (Nat.le_of_eq rfl) (hb hby at_294) ?_
  intro v28 T28 h28 L28 X28 e28 q28
  obtain ⟨rfl, qh28, rfl⟩ := q28
  rw [qh28] at e28
  have N28 := Fr.app N27 (Fr.nil n0)
  show own_Fin _ _ _ _ _ _ _ (T28.setTop (mkF m 297 #[.val (.long x0), .second, .val (.int x1), .val (.int x2), .val (.int x3), .val (.long (own_lushr x0 (x1 &&& (63 : Int32)))), .second, .val (.int (x2 &&& (3 : Int32))), .val (.int (own_i2b x3)), .val (.ref b1), .val (.int z), .val (.int (own_f2 (own_lushr x0 (x1 &&& (63 : Int32)))))] [(.int (1 : Int32))]))
  refine own_of (fun _ kk => XS.ifNo X28.here hx rfl (hb hby at_297) rfl ((if0 _ _).trans (feq (by decide : ¬ ((1 : Int32) = (0 : Int32)))).1) kk) ?_
  show own_Fin _ _ _ _ _ _ _ (T28.setTop (mkF m 300 #[.val (.long x0), .second, .val (.int x1), .val (.int x2), .val (.int x3), .val (.long (own_lushr x0 (x1 &&& (63 : Int32)))), .second, .val (.int (x2 &&& (3 : Int32))), .val (.int (own_i2b x3)), .val (.ref b1), .val (.int z), .val (.int (own_f2 (own_lushr x0 (x1 &&& (63 : Int32)))))] []))
  refine own_of (fun _ kk => XS.aload X28.here hx rfl (hb hby at_300) rfl rfl kk) ?_
  show own_Fin _ _ _ _ _ _ _ (T28.setTop (mkF m 302 #[.val (.long x0), .second, .val (.int x1), .val (.int x2), .val (.int x3), .val (.long (own_lushr x0 (x1 &&& (63 : Int32)))), .second, .val (.int (x2 &&& (3 : Int32))), .val (.int (own_i2b x3)), .val (.ref b1), .val (.int z), .val (.int (own_f2 (own_lushr x0 (x1 &&& (63 : Int32)))))] [(.ref b1)]))
  refine own_of (fun _ kk => XS.bipush X28.here hx rfl (hb hby at_302) kk) ?_
  show own_Fin _ _ _ _ _ _ _ (T28.setTop (mkF m 304 #[.val (.long x0), .second, .val (.int x1), .val (.int x2), .val (.int x3), .val (.long (own_lushr x0 (x1 &&& (63 : Int32)))), .second, .val (.int (x2 &&& (3 : Int32))), .val (.int (own_i2b x3)), .val (.ref b1), .val (.int z), .val (.int (own_f2 (own_lushr x0 (x1 &&& (63 : Int32)))))] [(.int (9 : Int32)), (.ref b1)]))
  refine own_of (fun _ kk => XS.iload X28.here hx rfl (hb hby at_304) rfl kk) ?_
  show own_Fin _ _ _ _ _ _ _ (T28.setTop (mkF m 306 #[.val (.long x0), .second, .val (.int x1), .val (.int x2), .val (.int x3), .val (.long (own_lushr x0 (x1 &&& (63 : Int32)))), .second, .val (.int (x2 &&& (3 : Int32))), .val (.int (own_i2b x3)), .val (.ref b1), .val (.int z), .val (.int (own_f2 (own_lushr x0 (x1 &&& (63 : Int32)))))] [(.int (x2 &&& (3 : Int32))), (.int (9 : Int32)), (.ref b1)]))
  refine own_of (fun _ kk => XS.lload X28.here hx rfl (hb hby at_306) rfl kk) ?_
  show own_Fin _ _ _ _ _ _ _ (T28.setTop (mkF m 308 #[.val (.long x0), .second, .val (.int x1), .val (.int x2), .val (.int x3), .val (.long (own_lushr x0 (x1 &&& (63 : Int32)))), .second, .val (.int (x2 &&& (3 : Int32))), .val (.int (own_i2b x3)), .val (.ref b1), .val (.int z), .val (.int (own_f2 (own_lushr x0 (x1 &&& (63 : Int32)))))] [(.long (own_lushr x0 (x1 &&& (63 : Int32)))), (.int (x2 &&& (3 : Int32))), (.int (9 : Int32)), (.ref b1)]))
  refine own_of (fun _ kk => XS.iload X28.here hx rfl (hb hby at_308) rfl kk) ?_
  show own_Fin _ _ _ _ _ _ _ (T28.setTop (mkF m 310 #[.val (.long x0), .second, .val (.int x1), .val (.int x2), .val (.int x3), .val (.long (own_lushr x0 (x1 &&& (63 : Int32)))), .second, .val (.int (x2 &&& (3 : Int32))), .val (.int (own_i2b x3)), .val (.ref b1), .val (.int z), .val (.int (own_f2 (own_lushr x0 (x1 &&& (63 : Int32)))))] [(.int (own_f2 (own_lushr x0 (x1 &&& (63 : Int32))))), (.long (own_lushr x0 (x1 &&& (63 : Int32)))), (.int (x2 &&& (3 : Int32))), (.int (9 : Int32)), (.ref b1)]))
  refine own_of (fun _ kk => XS.iload X28.here hx rfl (hb hby at_310) rfl kk) ?_
  show own_Fin _ _ _ _ _ _ _ (T28.setTop (mkF m 312 #[.val (.long x0), .second, .val (.int x1), .val (.int x2), .val (.int x3), .val (.long (own_lushr x0 (x1 &&& (63 : Int32)))), .second, .val (.int (x2 &&& (3 : Int32))), .val (.int (own_i2b x3)), .val (.ref b1), .val (.int z), .val (.int (own_f2 (own_lushr x0 (x1 &&& (63 : Int32)))))] [(.int (own_i2b x3)), (.int (own_f2 (own_lushr x0 (x1 &&& (63 : Int32))))), (.long (own_lushr x0 (x1 &&& (63 : Int32)))), (.int (x2 &&& (3 : Int32))), (.int (9 : Int32)), (.ref b1)]))
  refine own_callS X28 hx hZ hown (hw _ (List.mem_of_getElem? (i := 13) rfl)) (hw _ (List.mem_of_getElem? (i := 14) rfl)) (hw _ (List.mem_of_getElem? (i := 8) rfl)) (hw _ (List.mem_of_getElem? (i := 15) rfl)) (by decide) e28 (argsL := [(.ref b1), (.int (9 : Int32)), (.int (x2 &&& (3 : Int32))), (.long (own_lushr x0 (x1 &&& (63 : Int32)))), (.int (own_f2 (own_lushr x0 (x1 &&& (63 : Int32))))), (.int (own_i2b x3))]) (met4 l Z a0 hw b1 (9 : Int32) (x2 &&& (3 : Int32)) (own_lushr x0 (x1 &&& (63 : Int32))) (own_f2 (own_lushr x0 (x1 &&& (63 : Int32)))) (own_i2b x3) 16 (own_w2 (x2 &&& (3 : Int32)).toInt.toNat (own_lushr x0 (x1 &&& (63 : Int32))) (fun _ => (own_i2b (own_i2b x3))) k) 9 ((own_w2 (x2 &&& (3 : Int32)).toInt.toNat (own_lushr x0 (x1 &&& (63 : Int32))) (fun _ => (own_i2b (own_i2b x3))) k) 9) h18 n0 Z18 A18 (by decide) (by decide) rfl (own_key (own_lushr x0 (x1 &&& (63 : Int32))) (x2 &&& (3 : Int32)) (own_f2 (own_lushr x0 (x1 &&& (63 : Int32)))) (own_i2b x3) (9 : Int32) (x2 &&& (3 : Int32)).toInt.toNat k 9 (fun _ => (own_i2b (own_i2b x3))) (own_at x2).1 (own_at x2).2 hk hs (by decide) (by decide) (own_i2b_i2b x3))) (W := 0) (by decide) (by decide) (by decide) (by decide) (by rw [hml]; rfl) pd_2 rfl (rest := []) rfl (Nat.le_of_eq rfl) (hb hby at_312) ?_
  intro v29 T29 h29 L29 X29 e29 q29
  obtain ⟨rfl, qh29, rfl⟩ := q29
  rw [qh29] at e29
  have N29 := Fr.app N28 (Fr.nil n0)
  show own_Fin _ _ _ _ _ _ _ (T29.setTop (mkF m 315 #[.val (.long x0), .second, .val (.int x1), .val (.int x2), .val (.int x3), .val (.long (own_lushr x0 (x1 &&& (63 : Int32)))), .second, .val (.int (x2 &&& (3 : Int32))), .val (.int (own_i2b x3)), .val (.ref b1), .val (.int z), .val (.int (own_f2 (own_lushr x0 (x1 &&& (63 : Int32)))))] [(.int (1 : Int32))]))
  refine own_of (fun _ kk => XS.ifNo X29.here hx rfl (hb hby at_315) rfl ((if0 _ _).trans (feq (by decide : ¬ ((1 : Int32) = (0 : Int32)))).1) kk) ?_
  show own_Fin _ _ _ _ _ _ _ (T29.setTop (mkF m 318 #[.val (.long x0), .second, .val (.int x1), .val (.int x2), .val (.int x3), .val (.long (own_lushr x0 (x1 &&& (63 : Int32)))), .second, .val (.int (x2 &&& (3 : Int32))), .val (.int (own_i2b x3)), .val (.ref b1), .val (.int z), .val (.int (own_f2 (own_lushr x0 (x1 &&& (63 : Int32)))))] []))
  refine own_of (fun _ kk => XS.aload X29.here hx rfl (hb hby at_318) rfl rfl kk) ?_
  show own_Fin _ _ _ _ _ _ _ (T29.setTop (mkF m 320 #[.val (.long x0), .second, .val (.int x1), .val (.int x2), .val (.int x3), .val (.long (own_lushr x0 (x1 &&& (63 : Int32)))), .second, .val (.int (x2 &&& (3 : Int32))), .val (.int (own_i2b x3)), .val (.ref b1), .val (.int z), .val (.int (own_f2 (own_lushr x0 (x1 &&& (63 : Int32)))))] [(.ref b1)]))
  refine own_of (fun _ kk => XS.bipush X29.here hx rfl (hb hby at_320) kk) ?_
  show own_Fin _ _ _ _ _ _ _ (T29.setTop (mkF m 322 #[.val (.long x0), .second, .val (.int x1), .val (.int x2), .val (.int x3), .val (.long (own_lushr x0 (x1 &&& (63 : Int32)))), .second, .val (.int (x2 &&& (3 : Int32))), .val (.int (own_i2b x3)), .val (.ref b1), .val (.int z), .val (.int (own_f2 (own_lushr x0 (x1 &&& (63 : Int32)))))] [(.int (10 : Int32)), (.ref b1)]))
  refine own_of (fun _ kk => XS.iload X29.here hx rfl (hb hby at_322) rfl kk) ?_
  show own_Fin _ _ _ _ _ _ _ (T29.setTop (mkF m 324 #[.val (.long x0), .second, .val (.int x1), .val (.int x2), .val (.int x3), .val (.long (own_lushr x0 (x1 &&& (63 : Int32)))), .second, .val (.int (x2 &&& (3 : Int32))), .val (.int (own_i2b x3)), .val (.ref b1), .val (.int z), .val (.int (own_f2 (own_lushr x0 (x1 &&& (63 : Int32)))))] [(.int (x2 &&& (3 : Int32))), (.int (10 : Int32)), (.ref b1)]))
  refine own_of (fun _ kk => XS.lload X29.here hx rfl (hb hby at_324) rfl kk) ?_
  show own_Fin _ _ _ _ _ _ _ (T29.setTop (mkF m 326 #[.val (.long x0), .second, .val (.int x1), .val (.int x2), .val (.int x3), .val (.long (own_lushr x0 (x1 &&& (63 : Int32)))), .second, .val (.int (x2 &&& (3 : Int32))), .val (.int (own_i2b x3)), .val (.ref b1), .val (.int z), .val (.int (own_f2 (own_lushr x0 (x1 &&& (63 : Int32)))))] [(.long (own_lushr x0 (x1 &&& (63 : Int32)))), (.int (x2 &&& (3 : Int32))), (.int (10 : Int32)), (.ref b1)]))
  refine own_of (fun _ kk => XS.iload X29.here hx rfl (hb hby at_326) rfl kk) ?_
  show own_Fin _ _ _ _ _ _ _ (T29.setTop (mkF m 328 #[.val (.long x0), .second, .val (.int x1), .val (.int x2), .val (.int x3), .val (.long (own_lushr x0 (x1 &&& (63 : Int32)))), .second, .val (.int (x2 &&& (3 : Int32))), .val (.int (own_i2b x3)), .val (.ref b1), .val (.int z), .val (.int (own_f2 (own_lushr x0 (x1 &&& (63 : Int32)))))] [(.int (own_f2 (own_lushr x0 (x1 &&& (63 : Int32))))), (.long (own_lushr x0 (x1 &&& (63 : Int32)))), (.int (x2 &&& (3 : Int32))), (.int (10 : Int32)), (.ref b1)]))
  refine own_of (fun _ kk => XS.iload X29.here hx rfl (hb hby at_328) rfl kk) ?_
  show own_Fin _ _ _ _ _ _ _ (T29.setTop (mkF m 330 #[.val (.long x0), .second, .val (.int x1), .val (.int x2), .val (.int x3), .val (.long (own_lushr x0 (x1 &&& (63 : Int32)))), .second, .val (.int (x2 &&& (3 : Int32))), .val (.int (own_i2b x3)), .val (.ref b1), .val (.int z), .val (.int (own_f2 (own_lushr x0 (x1 &&& (63 : Int32)))))] [(.int (own_i2b x3)), (.int (own_f2 (own_lushr x0 (x1 &&& (63 : Int32))))), (.long (own_lushr x0 (x1 &&& (63 : Int32)))), (.int (x2 &&& (3 : Int32))), (.int (10 : Int32)), (.ref b1)]))
  refine own_callS X29 hx hZ hown (hw _ (List.mem_of_getElem? (i := 13) rfl)) (hw _ (List.mem_of_getElem? (i := 14) rfl)) (hw _ (List.mem_of_getElem? (i := 8) rfl)) (hw _ (List.mem_of_getElem? (i := 15) rfl)) (by decide) e29 (argsL := [(.ref b1), (.int (10 : Int32)), (.int (x2 &&& (3 : Int32))), (.long (own_lushr x0 (x1 &&& (63 : Int32)))), (.int (own_f2 (own_lushr x0 (x1 &&& (63 : Int32))))), (.int (own_i2b x3))]) (met4 l Z a0 hw b1 (10 : Int32) (x2 &&& (3 : Int32)) (own_lushr x0 (x1 &&& (63 : Int32))) (own_f2 (own_lushr x0 (x1 &&& (63 : Int32)))) (own_i2b x3) 16 (own_w2 (x2 &&& (3 : Int32)).toInt.toNat (own_lushr x0 (x1 &&& (63 : Int32))) (fun _ => (own_i2b (own_i2b x3))) k) 10 ((own_w2 (x2 &&& (3 : Int32)).toInt.toNat (own_lushr x0 (x1 &&& (63 : Int32))) (fun _ => (own_i2b (own_i2b x3))) k) 10) h18 n0 Z18 A18 (by decide) (by decide) rfl (own_key (own_lushr x0 (x1 &&& (63 : Int32))) (x2 &&& (3 : Int32)) (own_f2 (own_lushr x0 (x1 &&& (63 : Int32)))) (own_i2b x3) (10 : Int32) (x2 &&& (3 : Int32)).toInt.toNat k 10 (fun _ => (own_i2b (own_i2b x3))) (own_at x2).1 (own_at x2).2 hk hs (by decide) (by decide) (own_i2b_i2b x3))) (W := 0) (by decide) (by decide) (by decide) (by decide) (by rw [hml]; rfl) pd_2 rfl (rest := []) rfl (Nat.le_of_eq rfl) (hb hby at_330) ?_
  intro v30 T30 h30 L30 X30 e30 q30
  obtain ⟨rfl, qh30, rfl⟩ := q30
  rw [qh30] at e30
  have N30 := Fr.app N29 (Fr.nil n0)
  show own_Fin _ _ _ _ _ _ _ (T30.setTop (mkF m 333 #[.val (.long x0), .second, .val (.int x1), .val (.int x2), .val (.int x3), .val (.long (own_lushr x0 (x1 &&& (63 : Int32)))), .second, .val (.int (x2 &&& (3 : Int32))), .val (.int (own_i2b x3)), .val (.ref b1), .val (.int z), .val (.int (own_f2 (own_lushr x0 (x1 &&& (63 : Int32)))))] [(.int (1 : Int32))]))
  refine own_of (fun _ kk => XS.ifNo X30.here hx rfl (hb hby at_333) rfl ((if0 _ _).trans (feq (by decide : ¬ ((1 : Int32) = (0 : Int32)))).1) kk) ?_
  show own_Fin _ _ _ _ _ _ _ (T30.setTop (mkF m 336 #[.val (.long x0), .second, .val (.int x1), .val (.int x2), .val (.int x3), .val (.long (own_lushr x0 (x1 &&& (63 : Int32)))), .second, .val (.int (x2 &&& (3 : Int32))), .val (.int (own_i2b x3)), .val (.ref b1), .val (.int z), .val (.int (own_f2 (own_lushr x0 (x1 &&& (63 : Int32)))))] []))
  refine own_of (fun _ kk => XS.aload X30.here hx rfl (hb hby at_336) rfl rfl kk) ?_
  show own_Fin _ _ _ _ _ _ _ (T30.setTop (mkF m 338 #[.val (.long x0), .second, .val (.int x1), .val (.int x2), .val (.int x3), .val (.long (own_lushr x0 (x1 &&& (63 : Int32)))), .second, .val (.int (x2 &&& (3 : Int32))), .val (.int (own_i2b x3)), .val (.ref b1), .val (.int z), .val (.int (own_f2 (own_lushr x0 (x1 &&& (63 : Int32)))))] [(.ref b1)]))
  refine own_of (fun _ kk => XS.bipush X30.here hx rfl (hb hby at_338) kk) ?_
  show own_Fin _ _ _ _ _ _ _ (T30.setTop (mkF m 340 #[.val (.long x0), .second, .val (.int x1), .val (.int x2), .val (.int x3), .val (.long (own_lushr x0 (x1 &&& (63 : Int32)))), .second, .val (.int (x2 &&& (3 : Int32))), .val (.int (own_i2b x3)), .val (.ref b1), .val (.int z), .val (.int (own_f2 (own_lushr x0 (x1 &&& (63 : Int32)))))] [(.int (11 : Int32)), (.ref b1)]))
  refine own_of (fun _ kk => XS.iload X30.here hx rfl (hb hby at_340) rfl kk) ?_
  show own_Fin _ _ _ _ _ _ _ (T30.setTop (mkF m 342 #[.val (.long x0), .second, .val (.int x1), .val (.int x2), .val (.int x3), .val (.long (own_lushr x0 (x1 &&& (63 : Int32)))), .second, .val (.int (x2 &&& (3 : Int32))), .val (.int (own_i2b x3)), .val (.ref b1), .val (.int z), .val (.int (own_f2 (own_lushr x0 (x1 &&& (63 : Int32)))))] [(.int (x2 &&& (3 : Int32))), (.int (11 : Int32)), (.ref b1)]))
  refine own_of (fun _ kk => XS.lload X30.here hx rfl (hb hby at_342) rfl kk) ?_
  show own_Fin _ _ _ _ _ _ _ (T30.setTop (mkF m 344 #[.val (.long x0), .second, .val (.int x1), .val (.int x2), .val (.int x3), .val (.long (own_lushr x0 (x1 &&& (63 : Int32)))), .second, .val (.int (x2 &&& (3 : Int32))), .val (.int (own_i2b x3)), .val (.ref b1), .val (.int z), .val (.int (own_f2 (own_lushr x0 (x1 &&& (63 : Int32)))))] [(.long (own_lushr x0 (x1 &&& (63 : Int32)))), (.int (x2 &&& (3 : Int32))), (.int (11 : Int32)), (.ref b1)]))
  refine own_of (fun _ kk => XS.iload X30.here hx rfl (hb hby at_344) rfl kk) ?_
  show own_Fin _ _ _ _ _ _ _ (T30.setTop (mkF m 346 #[.val (.long x0), .second, .val (.int x1), .val (.int x2), .val (.int x3), .val (.long (own_lushr x0 (x1 &&& (63 : Int32)))), .second, .val (.int (x2 &&& (3 : Int32))), .val (.int (own_i2b x3)), .val (.ref b1), .val (.int z), .val (.int (own_f2 (own_lushr x0 (x1 &&& (63 : Int32)))))] [(.int (own_f2 (own_lushr x0 (x1 &&& (63 : Int32))))), (.long (own_lushr x0 (x1 &&& (63 : Int32)))), (.int (x2 &&& (3 : Int32))), (.int (11 : Int32)), (.ref b1)]))
  refine own_of (fun _ kk => XS.iload X30.here hx rfl (hb hby at_346) rfl kk) ?_
  show own_Fin _ _ _ _ _ _ _ (T30.setTop (mkF m 348 #[.val (.long x0), .second, .val (.int x1), .val (.int x2), .val (.int x3), .val (.long (own_lushr x0 (x1 &&& (63 : Int32)))), .second, .val (.int (x2 &&& (3 : Int32))), .val (.int (own_i2b x3)), .val (.ref b1), .val (.int z), .val (.int (own_f2 (own_lushr x0 (x1 &&& (63 : Int32)))))] [(.int (own_i2b x3)), (.int (own_f2 (own_lushr x0 (x1 &&& (63 : Int32))))), (.long (own_lushr x0 (x1 &&& (63 : Int32)))), (.int (x2 &&& (3 : Int32))), (.int (11 : Int32)), (.ref b1)]))
  refine own_callS X30 hx hZ hown (hw _ (List.mem_of_getElem? (i := 13) rfl)) (hw _ (List.mem_of_getElem? (i := 14) rfl)) (hw _ (List.mem_of_getElem? (i := 8) rfl)) (hw _ (List.mem_of_getElem? (i := 15) rfl)) (by decide) e30 (argsL := [(.ref b1), (.int (11 : Int32)), (.int (x2 &&& (3 : Int32))), (.long (own_lushr x0 (x1 &&& (63 : Int32)))), (.int (own_f2 (own_lushr x0 (x1 &&& (63 : Int32))))), (.int (own_i2b x3))]) (met4 l Z a0 hw b1 (11 : Int32) (x2 &&& (3 : Int32)) (own_lushr x0 (x1 &&& (63 : Int32))) (own_f2 (own_lushr x0 (x1 &&& (63 : Int32)))) (own_i2b x3) 16 (own_w2 (x2 &&& (3 : Int32)).toInt.toNat (own_lushr x0 (x1 &&& (63 : Int32))) (fun _ => (own_i2b (own_i2b x3))) k) 11 ((own_w2 (x2 &&& (3 : Int32)).toInt.toNat (own_lushr x0 (x1 &&& (63 : Int32))) (fun _ => (own_i2b (own_i2b x3))) k) 11) h18 n0 Z18 A18 (by decide) (by decide) rfl (own_key (own_lushr x0 (x1 &&& (63 : Int32))) (x2 &&& (3 : Int32)) (own_f2 (own_lushr x0 (x1 &&& (63 : Int32)))) (own_i2b x3) (11 : Int32) (x2 &&& (3 : Int32)).toInt.toNat k 11 (fun _ => (own_i2b (own_i2b x3))) (own_at x2).1 (own_at x2).2 hk hs (by decide) (by decide) (own_i2b_i2b x3))) (W := 0) (by decide) (by decide) (by decide) (by decide) (by rw [hml]; rfl) pd_2 rfl (rest := []) rfl (Nat.le_of_eq rfl) (hb hby at_348) ?_
  intro v31 T31 h31 L31 X31 e31 q31
  obtain ⟨rfl, qh31, rfl⟩ := q31
  rw [qh31] at e31
  have N31 := Fr.app N30 (Fr.nil n0)
  show own_Fin _ _ _ _ _ _ _ (T31.setTop (mkF m 351 #[.val (.long x0), .second, .val (.int x1), .val (.int x2), .val (.int x3), .val (.long (own_lushr x0 (x1 &&& (63 : Int32)))), .second, .val (.int (x2 &&& (3 : Int32))), .val (.int (own_i2b x3)), .val (.ref b1), .val (.int z), .val (.int (own_f2 (own_lushr x0 (x1 &&& (63 : Int32)))))] [(.int (1 : Int32))]))
  refine own_of (fun _ kk => XS.ifNo X31.here hx rfl (hb hby at_351) rfl ((if0 _ _).trans (feq (by decide : ¬ ((1 : Int32) = (0 : Int32)))).1) kk) ?_
  show own_Fin _ _ _ _ _ _ _ (T31.setTop (mkF m 354 #[.val (.long x0), .second, .val (.int x1), .val (.int x2), .val (.int x3), .val (.long (own_lushr x0 (x1 &&& (63 : Int32)))), .second, .val (.int (x2 &&& (3 : Int32))), .val (.int (own_i2b x3)), .val (.ref b1), .val (.int z), .val (.int (own_f2 (own_lushr x0 (x1 &&& (63 : Int32)))))] []))
  refine own_of (fun _ kk => XS.aload X31.here hx rfl (hb hby at_354) rfl rfl kk) ?_
  show own_Fin _ _ _ _ _ _ _ (T31.setTop (mkF m 356 #[.val (.long x0), .second, .val (.int x1), .val (.int x2), .val (.int x3), .val (.long (own_lushr x0 (x1 &&& (63 : Int32)))), .second, .val (.int (x2 &&& (3 : Int32))), .val (.int (own_i2b x3)), .val (.ref b1), .val (.int z), .val (.int (own_f2 (own_lushr x0 (x1 &&& (63 : Int32)))))] [(.ref b1)]))
  refine own_of (fun _ kk => XS.bipush X31.here hx rfl (hb hby at_356) kk) ?_
  show own_Fin _ _ _ _ _ _ _ (T31.setTop (mkF m 358 #[.val (.long x0), .second, .val (.int x1), .val (.int x2), .val (.int x3), .val (.long (own_lushr x0 (x1 &&& (63 : Int32)))), .second, .val (.int (x2 &&& (3 : Int32))), .val (.int (own_i2b x3)), .val (.ref b1), .val (.int z), .val (.int (own_f2 (own_lushr x0 (x1 &&& (63 : Int32)))))] [(.int (12 : Int32)), (.ref b1)]))
  refine own_of (fun _ kk => XS.iload X31.here hx rfl (hb hby at_358) rfl kk) ?_
  show own_Fin _ _ _ _ _ _ _ (T31.setTop (mkF m 360 #[.val (.long x0), .second, .val (.int x1), .val (.int x2), .val (.int x3), .val (.long (own_lushr x0 (x1 &&& (63 : Int32)))), .second, .val (.int (x2 &&& (3 : Int32))), .val (.int (own_i2b x3)), .val (.ref b1), .val (.int z), .val (.int (own_f2 (own_lushr x0 (x1 &&& (63 : Int32)))))] [(.int (x2 &&& (3 : Int32))), (.int (12 : Int32)), (.ref b1)]))
  refine own_of (fun _ kk => XS.lload X31.here hx rfl (hb hby at_360) rfl kk) ?_
  show own_Fin _ _ _ _ _ _ _ (T31.setTop (mkF m 362 #[.val (.long x0), .second, .val (.int x1), .val (.int x2), .val (.int x3), .val (.long (own_lushr x0 (x1 &&& (63 : Int32)))), .second, .val (.int (x2 &&& (3 : Int32))), .val (.int (own_i2b x3)), .val (.ref b1), .val (.int z), .val (.int (own_f2 (own_lushr x0 (x1 &&& (63 : Int32)))))] [(.long (own_lushr x0 (x1 &&& (63 : Int32)))), (.int (x2 &&& (3 : Int32))), (.int (12 : Int32)), (.ref b1)]))
  refine own_of (fun _ kk => XS.iload X31.here hx rfl (hb hby at_362) rfl kk) ?_
  show own_Fin _ _ _ _ _ _ _ (T31.setTop (mkF m 364 #[.val (.long x0), .second, .val (.int x1), .val (.int x2), .val (.int x3), .val (.long (own_lushr x0 (x1 &&& (63 : Int32)))), .second, .val (.int (x2 &&& (3 : Int32))), .val (.int (own_i2b x3)), .val (.ref b1), .val (.int z), .val (.int (own_f2 (own_lushr x0 (x1 &&& (63 : Int32)))))] [(.int (own_f2 (own_lushr x0 (x1 &&& (63 : Int32))))), (.long (own_lushr x0 (x1 &&& (63 : Int32)))), (.int (x2 &&& (3 : Int32))), (.int (12 : Int32)), (.ref b1)]))
  refine own_of (fun _ kk => XS.iload X31.here hx rfl (hb hby at_364) rfl kk) ?_
  show own_Fin _ _ _ _ _ _ _ (T31.setTop (mkF m 366 #[.val (.long x0), .second, .val (.int x1), .val (.int x2), .val (.int x3), .val (.long (own_lushr x0 (x1 &&& (63 : Int32)))), .second, .val (.int (x2 &&& (3 : Int32))), .val (.int (own_i2b x3)), .val (.ref b1), .val (.int z), .val (.int (own_f2 (own_lushr x0 (x1 &&& (63 : Int32)))))] [(.int (own_i2b x3)), (.int (own_f2 (own_lushr x0 (x1 &&& (63 : Int32))))), (.long (own_lushr x0 (x1 &&& (63 : Int32)))), (.int (x2 &&& (3 : Int32))), (.int (12 : Int32)), (.ref b1)]))
  refine own_callS X31 hx hZ hown (hw _ (List.mem_of_getElem? (i := 13) rfl)) (hw _ (List.mem_of_getElem? (i := 14) rfl)) (hw _ (List.mem_of_getElem? (i := 8) rfl)) (hw _ (List.mem_of_getElem? (i := 15) rfl)) (by decide) e31 (argsL := [(.ref b1), (.int (12 : Int32)), (.int (x2 &&& (3 : Int32))), (.long (own_lushr x0 (x1 &&& (63 : Int32)))), (.int (own_f2 (own_lushr x0 (x1 &&& (63 : Int32))))), (.int (own_i2b x3))]) (met4 l Z a0 hw b1 (12 : Int32) (x2 &&& (3 : Int32)) (own_lushr x0 (x1 &&& (63 : Int32))) (own_f2 (own_lushr x0 (x1 &&& (63 : Int32)))) (own_i2b x3) 16 (own_w2 (x2 &&& (3 : Int32)).toInt.toNat (own_lushr x0 (x1 &&& (63 : Int32))) (fun _ => (own_i2b (own_i2b x3))) k) 12 ((own_w2 (x2 &&& (3 : Int32)).toInt.toNat (own_lushr x0 (x1 &&& (63 : Int32))) (fun _ => (own_i2b (own_i2b x3))) k) 12) h18 n0 Z18 A18 (by decide) (by decide) rfl (own_key (own_lushr x0 (x1 &&& (63 : Int32))) (x2 &&& (3 : Int32)) (own_f2 (own_lushr x0 (x1 &&& (63 : Int32)))) (own_i2b x3) (12 : Int32) (x2 &&& (3 : Int32)).toInt.toNat k 12 (fun _ => (own_i2b (own_i2b x3))) (own_at x2).1 (own_at x2).2 hk hs (by decide) (by decide) (own_i2b_i2b x3))) (W := 0) (by decide) (by decide) (by decide) (by decide) (by rw [hml]; rfl) pd_2 rfl (rest := []) rfl (Nat.le_of_eq rfl) (hb hby at_366) ?_
  intro v32 T32 h32 L32 X32 e32 q32
  obtain ⟨rfl, qh32, rfl⟩ := q32
  rw [qh32] at e32
  have N32 := Fr.app N31 (Fr.nil n0)
  show own_Fin _ _ _ _ _ _ _ (T32.setTop (mkF m 369 #[.val (.long x0), .second, .val (.int x1), .val (.int x2), .val (.int x3), .val (.long (own_lushr x0 (x1 &&& (63 : Int32)))), .second, .val (.int (x2 &&& (3 : Int32))), .val (.int (own_i2b x3)), .val (.ref b1), .val (.int z), .val (.int (own_f2 (own_lushr x0 (x1 &&& (63 : Int32)))))] [(.int (1 : Int32))]))
  refine own_of (fun _ kk => XS.ifNo X32.here hx rfl (hb hby at_369) rfl ((if0 _ _).trans (feq (by decide : ¬ ((1 : Int32) = (0 : Int32)))).1) kk) ?_
  show own_Fin _ _ _ _ _ _ _ (T32.setTop (mkF m 372 #[.val (.long x0), .second, .val (.int x1), .val (.int x2), .val (.int x3), .val (.long (own_lushr x0 (x1 &&& (63 : Int32)))), .second, .val (.int (x2 &&& (3 : Int32))), .val (.int (own_i2b x3)), .val (.ref b1), .val (.int z), .val (.int (own_f2 (own_lushr x0 (x1 &&& (63 : Int32)))))] []))
  refine own_of (fun _ kk => XS.aload X32.here hx rfl (hb hby at_372) rfl rfl kk) ?_
  show own_Fin _ _ _ _ _ _ _ (T32.setTop (mkF m 374 #[.val (.long x0), .second, .val (.int x1), .val (.int x2), .val (.int x3), .val (.long (own_lushr x0 (x1 &&& (63 : Int32)))), .second, .val (.int (x2 &&& (3 : Int32))), .val (.int (own_i2b x3)), .val (.ref b1), .val (.int z), .val (.int (own_f2 (own_lushr x0 (x1 &&& (63 : Int32)))))] [(.ref b1)]))
  refine own_of (fun _ kk => XS.bipush X32.here hx rfl (hb hby at_374) kk) ?_
  show own_Fin _ _ _ _ _ _ _ (T32.setTop (mkF m 376 #[.val (.long x0), .second, .val (.int x1), .val (.int x2), .val (.int x3), .val (.long (own_lushr x0 (x1 &&& (63 : Int32)))), .second, .val (.int (x2 &&& (3 : Int32))), .val (.int (own_i2b x3)), .val (.ref b1), .val (.int z), .val (.int (own_f2 (own_lushr x0 (x1 &&& (63 : Int32)))))] [(.int (13 : Int32)), (.ref b1)]))
  refine own_of (fun _ kk => XS.iload X32.here hx rfl (hb hby at_376) rfl kk) ?_
  show own_Fin _ _ _ _ _ _ _ (T32.setTop (mkF m 378 #[.val (.long x0), .second, .val (.int x1), .val (.int x2), .val (.int x3), .val (.long (own_lushr x0 (x1 &&& (63 : Int32)))), .second, .val (.int (x2 &&& (3 : Int32))), .val (.int (own_i2b x3)), .val (.ref b1), .val (.int z), .val (.int (own_f2 (own_lushr x0 (x1 &&& (63 : Int32)))))] [(.int (x2 &&& (3 : Int32))), (.int (13 : Int32)), (.ref b1)]))
  refine own_of (fun _ kk => XS.lload X32.here hx rfl (hb hby at_378) rfl kk) ?_
  show own_Fin _ _ _ _ _ _ _ (T32.setTop (mkF m 380 #[.val (.long x0), .second, .val (.int x1), .val (.int x2), .val (.int x3), .val (.long (own_lushr x0 (x1 &&& (63 : Int32)))), .second, .val (.int (x2 &&& (3 : Int32))), .val (.int (own_i2b x3)), .val (.ref b1), .val (.int z), .val (.int (own_f2 (own_lushr x0 (x1 &&& (63 : Int32)))))] [(.long (own_lushr x0 (x1 &&& (63 : Int32)))), (.int (x2 &&& (3 : Int32))), (.int (13 : Int32)), (.ref b1)]))
  refine own_of (fun _ kk => XS.iload X32.here hx rfl (hb hby at_380) rfl kk) ?_
  show own_Fin _ _ _ _ _ _ _ (T32.setTop (mkF m 382 #[.val (.long x0), .second, .val (.int x1), .val (.int x2), .val (.int x3), .val (.long (own_lushr x0 (x1 &&& (63 : Int32)))), .second, .val (.int (x2 &&& (3 : Int32))), .val (.int (own_i2b x3)), .val (.ref b1), .val (.int z), .val (.int (own_f2 (own_lushr x0 (x1 &&& (63 : Int32)))))] [(.int (own_f2 (own_lushr x0 (x1 &&& (63 : Int32))))), (.long (own_lushr x0 (x1 &&& (63 : Int32)))), (.int (x2 &&& (3 : Int32))), (.int (13 : Int32)), (.ref b1)]))
  refine own_of (fun _ kk => XS.iload X32.here hx rfl (hb hby at_382) rfl kk) ?_
  show own_Fin _ _ _ _ _ _ _ (T32.setTop (mkF m 384 #[.val (.long x0), .second, .val (.int x1), .val (.int x2), .val (.int x3), .val (.long (own_lushr x0 (x1 &&& (63 : Int32)))), .second, .val (.int (x2 &&& (3 : Int32))), .val (.int (own_i2b x3)), .val (.ref b1), .val (.int z), .val (.int (own_f2 (own_lushr x0 (x1 &&& (63 : Int32)))))] [(.int (own_i2b x3)), (.int (own_f2 (own_lushr x0 (x1 &&& (63 : Int32))))), (.long (own_lushr x0 (x1 &&& (63 : Int32)))), (.int (x2 &&& (3 : Int32))), (.int (13 : Int32)), (.ref b1)]))
  refine own_callS X32 hx hZ hown (hw _ (List.mem_of_getElem? (i := 13) rfl)) (hw _ (List.mem_of_getElem? (i := 14) rfl)) (hw _ (List.mem_of_getElem? (i := 8) rfl)) (hw _ (List.mem_of_getElem? (i := 15) rfl)) (by decide) e32 (argsL := [(.ref b1), (.int (13 : Int32)), (.int (x2 &&& (3 : Int32))), (.long (own_lushr x0 (x1 &&& (63 : Int32)))), (.int (own_f2 (own_lushr x0 (x1 &&& (63 : Int32))))), (.int (own_i2b x3))]) (met4 l Z a0 hw b1 (13 : Int32) (x2 &&& (3 : Int32)) (own_lushr x0 (x1 &&& (63 : Int32))) (own_f2 (own_lushr x0 (x1 &&& (63 : Int32)))) (own_i2b x3) 16 (own_w2 (x2 &&& (3 : Int32)).toInt.toNat (own_lushr x0 (x1 &&& (63 : Int32))) (fun _ => (own_i2b (own_i2b x3))) k) 13 ((own_w2 (x2 &&& (3 : Int32)).toInt.toNat (own_lushr x0 (x1 &&& (63 : Int32))) (fun _ => (own_i2b (own_i2b x3))) k) 13) h18 n0 Z18 A18 (by decide) (by decide) rfl (own_key (own_lushr x0 (x1 &&& (63 : Int32))) (x2 &&& (3 : Int32)) (own_f2 (own_lushr x0 (x1 &&& (63 : Int32)))) (own_i2b x3) (13 : Int32) (x2 &&& (3 : Int32)).toInt.toNat k 13 (fun _ => (own_i2b (own_i2b x3))) (own_at x2).1 (own_at x2).2 hk hs (by decide) (by decide) (own_i2b_i2b x3))) (W := 0) (by decide) (by decide) (by decide) (by decide) (by rw [hml]; rfl) pd_2 rfl (rest := []) rfl (Nat.le_of_eq rfl) (hb hby at_384) ?_
  intro v33 T33 h33 L33 X33 e33 q33
  obtain ⟨rfl, qh33, rfl⟩ := q33
  rw [qh33] at e33
  have N33 := Fr.app N32 (Fr.nil n0)
  show own_Fin _ _ _ _ _ _ _ (T33.setTop (mkF m 387 #[.val (.long x0), .second, .val (.int x1), .val (.int x2), .val (.int x3), .val (.long (own_lushr x0 (x1 &&& (63 : Int32)))), .second, .val (.int (x2 &&& (3 : Int32))), .val (.int (own_i2b x3)), .val (.ref b1), .val (.int z), .val (.int (own_f2 (own_lushr x0 (x1 &&& (63 : Int32)))))] [(.int (1 : Int32))]))
  refine own_of (fun _ kk => XS.ifNo X33.here hx rfl (hb hby at_387) rfl ((if0 _ _).trans (feq (by decide : ¬ ((1 : Int32) = (0 : Int32)))).1) kk) ?_
  show own_Fin _ _ _ _ _ _ _ (T33.setTop (mkF m 390 #[.val (.long x0), .second, .val (.int x1), .val (.int x2), .val (.int x3), .val (.long (own_lushr x0 (x1 &&& (63 : Int32)))), .second, .val (.int (x2 &&& (3 : Int32))), .val (.int (own_i2b x3)), .val (.ref b1), .val (.int z), .val (.int (own_f2 (own_lushr x0 (x1 &&& (63 : Int32)))))] []))
  refine own_of (fun _ kk => XS.aload X33.here hx rfl (hb hby at_390) rfl rfl kk) ?_
  show own_Fin _ _ _ _ _ _ _ (T33.setTop (mkF m 392 #[.val (.long x0), .second, .val (.int x1), .val (.int x2), .val (.int x3), .val (.long (own_lushr x0 (x1 &&& (63 : Int32)))), .second, .val (.int (x2 &&& (3 : Int32))), .val (.int (own_i2b x3)), .val (.ref b1), .val (.int z), .val (.int (own_f2 (own_lushr x0 (x1 &&& (63 : Int32)))))] [(.ref b1)]))
  refine own_of (fun _ kk => XS.bipush X33.here hx rfl (hb hby at_392) kk) ?_
  show own_Fin _ _ _ _ _ _ _ (T33.setTop (mkF m 394 #[.val (.long x0), .second, .val (.int x1), .val (.int x2), .val (.int x3), .val (.long (own_lushr x0 (x1 &&& (63 : Int32)))), .second, .val (.int (x2 &&& (3 : Int32))), .val (.int (own_i2b x3)), .val (.ref b1), .val (.int z), .val (.int (own_f2 (own_lushr x0 (x1 &&& (63 : Int32)))))] [(.int (14 : Int32)), (.ref b1)]))
  refine own_of (fun _ kk => XS.iload X33.here hx rfl (hb hby at_394) rfl kk) ?_
  show own_Fin _ _ _ _ _ _ _ (T33.setTop (mkF m 396 #[.val (.long x0), .second, .val (.int x1), .val (.int x2), .val (.int x3), .val (.long (own_lushr x0 (x1 &&& (63 : Int32)))), .second, .val (.int (x2 &&& (3 : Int32))), .val (.int (own_i2b x3)), .val (.ref b1), .val (.int z), .val (.int (own_f2 (own_lushr x0 (x1 &&& (63 : Int32)))))] [(.int (x2 &&& (3 : Int32))), (.int (14 : Int32)), (.ref b1)]))
  refine own_of (fun _ kk => XS.lload X33.here hx rfl (hb hby at_396) rfl kk) ?_
  show own_Fin _ _ _ _ _ _ _ (T33.setTop (mkF m 398 #[.val (.long x0), .second, .val (.int x1), .val (.int x2), .val (.int x3), .val (.long (own_lushr x0 (x1 &&& (63 : Int32)))), .second, .val (.int (x2 &&& (3 : Int32))), .val (.int (own_i2b x3)), .val (.ref b1), .val (.int z), .val (.int (own_f2 (own_lushr x0 (x1 &&& (63 : Int32)))))] [(.long (own_lushr x0 (x1 &&& (63 : Int32)))), (.int (x2 &&& (3 : Int32))), (.int (14 : Int32)), (.ref b1)]))
  refine own_of (fun _ kk => XS.iload X33.here hx rfl (hb hby at_398) rfl kk) ?_
  show own_Fin _ _ _ _ _ _ _ (T33.setTop (mkF m 400 #[.val (.long x0), .second, .val (.int x1), .val (.int x2), .val (.int x3), .val (.long (own_lushr x0 (x1 &&& (63 : Int32)))), .second, .val (.int (x2 &&& (3 : Int32))), .val (.int (own_i2b x3)), .val (.ref b1), .val (.int z), .val (.int (own_f2 (own_lushr x0 (x1 &&& (63 : Int32)))))] [(.int (own_f2 (own_lushr x0 (x1 &&& (63 : Int32))))), (.long (own_lushr x0 (x1 &&& (63 : Int32)))), (.int (x2 &&& (3 : Int32))), (.int (14 : Int32)), (.ref b1)]))
  refine own_of (fun _ kk => XS.iload X33.here hx rfl (hb hby at_400) rfl kk) ?_
  show own_Fin _ _ _ _ _ _ _ (T33.setTop (mkF m 402 #[.val (.long x0), .second, .val (.int x1), .val (.int x2), .val (.int x3), .val (.long (own_lushr x0 (x1 &&& (63 : Int32)))), .second, .val (.int (x2 &&& (3 : Int32))), .val (.int (own_i2b x3)), .val (.ref b1), .val (.int z), .val (.int (own_f2 (own_lushr x0 (x1 &&& (63 : Int32)))))] [(.int (own_i2b x3)), (.int (own_f2 (own_lushr x0 (x1 &&& (63 : Int32))))), (.long (own_lushr x0 (x1 &&& (63 : Int32)))), (.int (x2 &&& (3 : Int32))), (.int (14 : Int32)), (.ref b1)]))
  refine own_callS X33 hx hZ hown (hw _ (List.mem_of_getElem? (i := 13) rfl)) (hw _ (List.mem_of_getElem? (i := 14) rfl)) (hw _ (List.mem_of_getElem? (i := 8) rfl)) (hw _ (List.mem_of_getElem? (i := 15) rfl)) (by decide) e33 (argsL := [(.ref b1), (.int (14 : Int32)), (.int (x2 &&& (3 : Int32))), (.long (own_lushr x0 (x1 &&& (63 : Int32)))), (.int (own_f2 (own_lushr x0 (x1 &&& (63 : Int32))))), (.int (own_i2b x3))]) (met4 l Z a0 hw b1 (14 : Int32) (x2 &&& (3 : Int32)) (own_lushr x0 (x1 &&& (63 : Int32))) (own_f2 (own_lushr x0 (x1 &&& (63 : Int32)))) (own_i2b x3) 16 (own_w2 (x2 &&& (3 : Int32)).toInt.toNat (own_lushr x0 (x1 &&& (63 : Int32))) (fun _ => (own_i2b (own_i2b x3))) k) 14 ((own_w2 (x2 &&& (3 : Int32)).toInt.toNat (own_lushr x0 (x1 &&& (63 : Int32))) (fun _ => (own_i2b (own_i2b x3))) k) 14) h18 n0 Z18 A18 (by decide) (by decide) rfl (own_key (own_lushr x0 (x1 &&& (63 : Int32))) (x2 &&& (3 : Int32)) (own_f2 (own_lushr x0 (x1 &&& (63 : Int32)))) (own_i2b x3) (14 : Int32) (x2 &&& (3 : Int32)).toInt.toNat k 14 (fun _ => (own_i2b (own_i2b x3))) (own_at x2).1 (own_at x2).2 hk hs (by decide) (by decide) (own_i2b_i2b x3))) (W := 0) (by decide) (by decide) (by decide) (by decide) (by rw [hml]; rfl) pd_2 rfl (rest := []) rfl (Nat.le_of_eq rfl) (hb hby at_402) ?_
  intro v34 T34 h34 L34 X34 e34 q34
  obtain ⟨rfl, qh34, rfl⟩ := q34
  rw [qh34] at e34
  have N34 := Fr.app N33 (Fr.nil n0)
  show own_Fin _ _ _ _ _ _ _ (T34.setTop (mkF m 405 #[.val (.long x0), .second, .val (.int x1), .val (.int x2), .val (.int x3), .val (.long (own_lushr x0 (x1 &&& (63 : Int32)))), .second, .val (.int (x2 &&& (3 : Int32))), .val (.int (own_i2b x3)), .val (.ref b1), .val (.int z), .val (.int (own_f2 (own_lushr x0 (x1 &&& (63 : Int32)))))] [(.int (1 : Int32))]))
  refine own_of (fun _ kk => XS.ifNo X34.here hx rfl (hb hby at_405) rfl ((if0 _ _).trans (feq (by decide : ¬ ((1 : Int32) = (0 : Int32)))).1) kk) ?_
  show own_Fin _ _ _ _ _ _ _ (T34.setTop (mkF m 408 #[.val (.long x0), .second, .val (.int x1), .val (.int x2), .val (.int x3), .val (.long (own_lushr x0 (x1 &&& (63 : Int32)))), .second, .val (.int (x2 &&& (3 : Int32))), .val (.int (own_i2b x3)), .val (.ref b1), .val (.int z), .val (.int (own_f2 (own_lushr x0 (x1 &&& (63 : Int32)))))] []))
  refine own_of (fun _ kk => XS.aload X34.here hx rfl (hb hby at_408) rfl rfl kk) ?_
  show own_Fin _ _ _ _ _ _ _ (T34.setTop (mkF m 410 #[.val (.long x0), .second, .val (.int x1), .val (.int x2), .val (.int x3), .val (.long (own_lushr x0 (x1 &&& (63 : Int32)))), .second, .val (.int (x2 &&& (3 : Int32))), .val (.int (own_i2b x3)), .val (.ref b1), .val (.int z), .val (.int (own_f2 (own_lushr x0 (x1 &&& (63 : Int32)))))] [(.ref b1)]))
  refine own_of (fun _ kk => XS.bipush X34.here hx rfl (hb hby at_410) kk) ?_
  show own_Fin _ _ _ _ _ _ _ (T34.setTop (mkF m 412 #[.val (.long x0), .second, .val (.int x1), .val (.int x2), .val (.int x3), .val (.long (own_lushr x0 (x1 &&& (63 : Int32)))), .second, .val (.int (x2 &&& (3 : Int32))), .val (.int (own_i2b x3)), .val (.ref b1), .val (.int z), .val (.int (own_f2 (own_lushr x0 (x1 &&& (63 : Int32)))))] [(.int (15 : Int32)), (.ref b1)]))
  refine own_of (fun _ kk => XS.iload X34.here hx rfl (hb hby at_412) rfl kk) ?_
  show own_Fin _ _ _ _ _ _ _ (T34.setTop (mkF m 414 #[.val (.long x0), .second, .val (.int x1), .val (.int x2), .val (.int x3), .val (.long (own_lushr x0 (x1 &&& (63 : Int32)))), .second, .val (.int (x2 &&& (3 : Int32))), .val (.int (own_i2b x3)), .val (.ref b1), .val (.int z), .val (.int (own_f2 (own_lushr x0 (x1 &&& (63 : Int32)))))] [(.int (x2 &&& (3 : Int32))), (.int (15 : Int32)), (.ref b1)]))
  refine own_of (fun _ kk => XS.lload X34.here hx rfl (hb hby at_414) rfl kk) ?_
  show own_Fin _ _ _ _ _ _ _ (T34.setTop (mkF m 416 #[.val (.long x0), .second, .val (.int x1), .val (.int x2), .val (.int x3), .val (.long (own_lushr x0 (x1 &&& (63 : Int32)))), .second, .val (.int (x2 &&& (3 : Int32))), .val (.int (own_i2b x3)), .val (.ref b1), .val (.int z), .val (.int (own_f2 (own_lushr x0 (x1 &&& (63 : Int32)))))] [(.long (own_lushr x0 (x1 &&& (63 : Int32)))), (.int (x2 &&& (3 : Int32))), (.int (15 : Int32)), (.ref b1)]))
  refine own_of (fun _ kk => XS.iload X34.here hx rfl (hb hby at_416) rfl kk) ?_
  show own_Fin _ _ _ _ _ _ _ (T34.setTop (mkF m 418 #[.val (.long x0), .second, .val (.int x1), .val (.int x2), .val (.int x3), .val (.long (own_lushr x0 (x1 &&& (63 : Int32)))), .second, .val (.int (x2 &&& (3 : Int32))), .val (.int (own_i2b x3)), .val (.ref b1), .val (.int z), .val (.int (own_f2 (own_lushr x0 (x1 &&& (63 : Int32)))))] [(.int (own_f2 (own_lushr x0 (x1 &&& (63 : Int32))))), (.long (own_lushr x0 (x1 &&& (63 : Int32)))), (.int (x2 &&& (3 : Int32))), (.int (15 : Int32)), (.ref b1)]))
  refine own_of (fun _ kk => XS.iload X34.here hx rfl (hb hby at_418) rfl kk) ?_
  show own_Fin _ _ _ _ _ _ _ (T34.setTop (mkF m 420 #[.val (.long x0), .second, .val (.int x1), .val (.int x2), .val (.int x3), .val (.long (own_lushr x0 (x1 &&& (63 : Int32)))), .second, .val (.int (x2 &&& (3 : Int32))), .val (.int (own_i2b x3)), .val (.ref b1), .val (.int z), .val (.int (own_f2 (own_lushr x0 (x1 &&& (63 : Int32)))))] [(.int (own_i2b x3)), (.int (own_f2 (own_lushr x0 (x1 &&& (63 : Int32))))), (.long (own_lushr x0 (x1 &&& (63 : Int32)))), (.int (x2 &&& (3 : Int32))), (.int (15 : Int32)), (.ref b1)]))
  refine own_callS X34 hx hZ hown (hw _ (List.mem_of_getElem? (i := 13) rfl)) (hw _ (List.mem_of_getElem? (i := 14) rfl)) (hw _ (List.mem_of_getElem? (i := 8) rfl)) (hw _ (List.mem_of_getElem? (i := 15) rfl)) (by decide) e34 (argsL := [(.ref b1), (.int (15 : Int32)), (.int (x2 &&& (3 : Int32))), (.long (own_lushr x0 (x1 &&& (63 : Int32)))), (.int (own_f2 (own_lushr x0 (x1 &&& (63 : Int32))))), (.int (own_i2b x3))]) (met4 l Z a0 hw b1 (15 : Int32) (x2 &&& (3 : Int32)) (own_lushr x0 (x1 &&& (63 : Int32))) (own_f2 (own_lushr x0 (x1 &&& (63 : Int32)))) (own_i2b x3) 16 (own_w2 (x2 &&& (3 : Int32)).toInt.toNat (own_lushr x0 (x1 &&& (63 : Int32))) (fun _ => (own_i2b (own_i2b x3))) k) 15 ((own_w2 (x2 &&& (3 : Int32)).toInt.toNat (own_lushr x0 (x1 &&& (63 : Int32))) (fun _ => (own_i2b (own_i2b x3))) k) 15) h18 n0 Z18 A18 (by decide) (by decide) rfl (own_key (own_lushr x0 (x1 &&& (63 : Int32))) (x2 &&& (3 : Int32)) (own_f2 (own_lushr x0 (x1 &&& (63 : Int32)))) (own_i2b x3) (15 : Int32) (x2 &&& (3 : Int32)).toInt.toNat k 15 (fun _ => (own_i2b (own_i2b x3))) (own_at x2).1 (own_at x2).2 hk hs (by decide) (by decide) (own_i2b_i2b x3))) (W := 0) (by decide) (by decide) (by decide) (by decide) (by rw [hml]; rfl) pd_2 rfl (rest := []) rfl (Nat.le_of_eq rfl) (hb hby at_420) ?_
  intro v35 T35 h35 L35 X35 e35 q35
  obtain ⟨rfl, qh35, rfl⟩ := q35
  rw [qh35] at e35
  have N35 := Fr.app N34 (Fr.nil n0)
  show own_Fin _ _ _ _ _ _ _ (T35.setTop (mkF m 423 #[.val (.long x0), .second, .val (.int x1), .val (.int x2), .val (.int x3), .val (.long (own_lushr x0 (x1 &&& (63 : Int32)))), .second, .val (.int (x2 &&& (3 : Int32))), .val (.int (own_i2b x3)), .val (.ref b1), .val (.int z), .val (.int (own_f2 (own_lushr x0 (x1 &&& (63 : Int32)))))] [(.int (1 : Int32))]))
  refine own_of (fun _ kk => XS.ifNo X35.here hx rfl (hb hby at_423) rfl ((if0 _ _).trans (feq (by decide : ¬ ((1 : Int32) = (0 : Int32)))).1) kk) ?_
  show own_Fin _ _ _ _ _ _ _ (T35.setTop (mkF m 426 #[.val (.long x0), .second, .val (.int x1), .val (.int x2), .val (.int x3), .val (.long (own_lushr x0 (x1 &&& (63 : Int32)))), .second, .val (.int (x2 &&& (3 : Int32))), .val (.int (own_i2b x3)), .val (.ref b1), .val (.int z), .val (.int (own_f2 (own_lushr x0 (x1 &&& (63 : Int32)))))] []))
  refine own_of (fun _ kk => XS.iconst X35.here hx rfl (hb hby at_426) kk) ?_
  show own_Fin _ _ _ _ _ _ _ (T35.setTop (mkF m 427 #[.val (.long x0), .second, .val (.int x1), .val (.int x2), .val (.int x3), .val (.long (own_lushr x0 (x1 &&& (63 : Int32)))), .second, .val (.int (x2 &&& (3 : Int32))), .val (.int (own_i2b x3)), .val (.ref b1), .val (.int z), .val (.int (own_f2 (own_lushr x0 (x1 &&& (63 : Int32)))))] [(.int (1 : Int32))]))
  refine own_of (fun _ kk => XS.goto X35.here hx rfl (pc0 := 427) (pc' := 431) rfl (hb hby at_427) (by decide) (by decide) kk) ?_
  show own_Fin _ _ _ _ _ _ _ (T35.setTop (mkF m 431 #[.val (.long x0), .second, .val (.int x1), .val (.int x2), .val (.int x3), .val (.long (own_lushr x0 (x1 &&& (63 : Int32)))), .second, .val (.int (x2 &&& (3 : Int32))), .val (.int (own_i2b x3)), .val (.ref b1), .val (.int z), .val (.int (own_f2 (own_lushr x0 (x1 &&& (63 : Int32)))))] [(.int (1 : Int32))]))
  exact own_retN X35 hx hlk e35 (t := .boolean) hret (by simp) (hb hby at_431) (by decide) (by decide) (z' := (1 : Int32)) (by decide) ⟨rfl, N35⟩
set_option maxRecDepth 65536 in
set_option maxHeartbeats 40000000 in
theorem comes_1 {Post : Tables → Env → Array Value → State → Outcome → State → Prop} (hpost : ∀ tb e args s v u, (limb_1_1.after args s (.returned v) u = true ∧ limb_1_2.after args s (.returned v) u = true ∧ True) → FrameEnd s (.returned v) u (Jvm.fieldLocs frame_1_writes args s ++ Jvm.arrayLocs frame_1_arrays args s ++ Jvm.staticLocs frame_1_statics s) 16 128 → Post tb e args s (.returned v) u) :
    ArmFor flags0 classFile x code maxLocals ret World_1 tables_1 room_1 Calls_1 rest_1 Pre_1 Post := by
  intro l hfl _ _ p e ha hc hk s m args below hf hA hF happ hP
  obtain ⟨hcalls, hrest, hpre⟩ := hP
  obtain ⟨-, -, -, hnamed, -, -, -, hat⟩ := (Spec.applies_iff hf).mp happ
  obtain ⟨hg, hn⟩ := and_e (Cond.before_iff.mp (show (Jvm.Cond.and given_1 narrow_1).before args s = true from hpre))
  obtain ⟨g1, g2⟩ := and_e hg
  obtain ⟨g3, g4⟩ := and_e g2
  obtain ⟨g5, g6⟩ := and_e g4
  obtain ⟨g7, g8⟩ := and_e g6
  obtain ⟨w0, w1, w2, w3, rfl⟩ : ∃ w0 w1 w2 w3 : Value, args = #[w0, w1, w2, w3] := by
    have hs : args.size = 4 := by simpa [Cond.value, given_1] using g1
    obtain ⟨L⟩ := args
    match L, hs with
    | [w0, w1, w2, w3], _ => exact ⟨w0, w1, w2, w3, rfl⟩
  have hw := fun d (hd : d ∈ tables_1) => atoms_spec (ws := Jvm.Cond.code x code maxLocals ret :: tables_1) hat d (List.mem_cons_of_mem _ hd)
  obtain ⟨i0, ei0⟩ := isL_v g3
  obtain rfl : w0 = (.long i0) := Option.some.inj ei0
  obtain ⟨i1, ei1⟩ := is_v g5
  obtain rfl : w1 = (.int i1) := Option.some.inj ei1
  obtain ⟨i2, ei2⟩ := is_v g7
  obtain rfl : w2 = (.int i2) := Option.some.inj ei2
  obtain ⟨i3, ei3⟩ := is_v g8
  obtain rfl : w3 = (.int i3) := Option.some.inj ei3
  obtain ⟨n, o, h1, h2, h3, _, L, rfl, ⟨rfl, N⟩, hq⟩ := own_law l s _ hw i0 i1 i2 i3 s.heap s.heap.size (Nat.le_refl _) tables_1 p e ha hc hk s m _ below hf ((Spec.applies_iff_loose hf).mp happ).1 ⟨rfl, State.Warmed39.refl s, rfl⟩ trivial
  refine ⟨n, _, h1, h2, h3, hpost _ _ _ _ _ _ ⟨Cond.after_iff.mpr rfl, Cond.after_iff.mpr (eq_i res_at (Term.int_eval (1)) rfl), trivial⟩ ⟨hq.1, hq.2.1, (hq.2.2.sift fun y hy => Or.inr (N y hy)).mono (by decide) (by decide)⟩⟩
theorem main_1_1 : Claimed_1_1 := comes_1 fun _ _ _ _ _ _ h hF => ⟨h.1, hF⟩
theorem main_1_2 : Claimed_1_2 := comes_1 fun _ _ _ _ _ _ h hF => ⟨h.2.1, hF⟩
end Jvm.Pilot.@@N@@
namespace Jvm.Pilot.@@N@@
open Jvm Jvm.ClassFile Sem Op Lib Jvm.Free Jvm.Stand Jvm.Pilot.@@N@@.Jvm.D
/-! MADE BY PROGRAM (witnessworld.py) out of the Statement's table words and the real class files: 9 classes; the members and pool entries that the words name. The judged class is class 1, her method 1. -/
namespace start1
open Jvm.ClassFile
def u (s : String) : CpInfo := .utf8 (stringToUtf16 s)
/-- a pool by its gaps: so many unusable entries, then the entry; so many at the end -/
def gap : Nat → List CpInfo → List CpInfo
  | 0, r => r
  | n + 1, r => .unusable :: gap n r
def poolList (es : List (Nat × CpInfo)) (last : Nat) : List CpInfo := es.foldr (fun e r => gap e.1 (e.2 :: r)) (gap last [])
def pool (es : List (Nat × CpInfo)) (last : Nat) : Array CpInfo := ⟨poolList es last⟩
def fileOf (pool : Array CpInfo) (this : Nat) (attrs : Array Attribute := #[]) (ms : Array MethodInfo := #[]) (fl : Nat := 33) (sup : Nat := 0) (ifs : Array Nat := #[]) (fds : Array FieldInfo := #[]) : ClassFile where
  minorVersion := 0
  majorVersion := 65
  constantPool := pool
  accessFlags := fl
  thisClass := this
  superClass := sup
  interfaces := ifs
  fields := fds
  methods := ms
  attributes := attrs
def plain (name : String) (sup : Option ClassId) : Class where
  name := name
  kind := .ordinary
  loader := none
  accessFlags := 33
  super := sup
  interfaces := #[]
  cf := none
  fields := #[]
  methods := #[]
  instanceTypes := #[]
  staticTypes := #[]
  resolved := #[]
  callSites := []
  init := .initialized
  statics := none
  mirror := none

def pool0 : Array CpInfo := pool [(5, u "<init>"), (0, u "()V"), (1, .class_ 10), (1, u "java/lang/Object")] 113

def k0m0 : Method := { name := "<init>", desc := "()V", sig := { parameters := [], returnType := none }, accessFlags := 1, code := none }
/-- java/lang/Object -/
def k0 : Class := { plain "java/lang/Object" none with
  accessFlags := 33
  interfaces := #[]
  cf := some (fileOf pool0 8 #[] #[{ accessFlags := 1, nameIndex := 5, descriptorIndex := 6, attributes := #[] }] 33 0 #[] #[])
  fields := #[]
  methods := #[k0m0]
  instanceTypes := #[]
  staticTypes := #[]
  resolved := Array.replicate 124 none
  statics := none }

def pool1 : Array CpInfo := pool [(2, .class_ 4), (1, u "java/lang/Object"), (0, u "<init>"), (0, u "()V"), (0, .methodref 8 9), (0, .class_ 10), (0, .nameAndType 11 12), (0, u "com/example/dosefold/dosefold/sort/Encoder"), (0, u "putBits"), (0, u "([BIJ)I"), (0, .methodref 14 15), (0, .class_ 16), (0, .nameAndType 17 18), (0, u "com/example/dosefold/dosefold/sort/EncoderPutBitsPinLaw"), (0, u "size"), (0, u "(J)I"), (0, .methodref 14 20), (0, .nameAndType 21 22), (0, u "ok"), (0, u "([BIIJIB)Z"), (0, .methodref 14 24), (0, .nameAndType 25 18), (0, u "nz"), (0, .long 128), (3, u "law"), (0, u "(JIII)Z")] 5

def k1m0 : Method := { name := "<init>", desc := "()V", sig := { parameters := [], returnType := none }, accessFlags := 2, code := none }
def k1c1 : Code := { maxStack := 7, maxLocals := 12, code := code, exceptionTable := #[], attributes := #[] }
def k1m1 : Method := { name := "law", desc := "(JIII)Z", sig := { parameters := [.long, .int, .int, .int], returnType := some .boolean }, accessFlags := 9, code := some k1c1 }
def k1c2 : Code := { maxStack := 4, maxLocals := 2, code := method_3_code, exceptionTable := #[], attributes := #[] }
def k1m2 : Method := { name := "nz", desc := "(J)I", sig := { parameters := [.long], returnType := some .int }, accessFlags := 10, code := some k1c2 }
def k1c3 : Code := { maxStack := 4, maxLocals := 2, code := method_4_code, exceptionTable := #[], attributes := #[] }
def k1m3 : Method := { name := "size", desc := "(J)I", sig := { parameters := [.long], returnType := some .int }, accessFlags := 10, code := some k1c3 }
def k1c4 : Code := { maxStack := 4, maxLocals := 11, code := method_5_code, exceptionTable := #[], attributes := #[] }
def k1m4 : Method := { name := "ok", desc := "([BIIJIB)Z", sig := { parameters := [(.array .byte), .int, .int, .long, .int, .byte], returnType := some .boolean }, accessFlags := 10, code := some k1c4 }
/-- com/example/dosefold/dosefold/sort/EncoderPutBitsPinLaw -/
def k1 : Class := { plain "com/example/dosefold/dosefold/sort/EncoderPutBitsPinLaw" (some 0) with
  accessFlags := 49
  interfaces := #[]
  cf := some (fileOf pool1 14 #[] #[{ accessFlags := 2, nameIndex := 5, descriptorIndex := 6, attributes := #[] }, { accessFlags := 9, nameIndex := 30, descriptorIndex := 31, attributes := #[] }, { accessFlags := 10, nameIndex := 25, descriptorIndex := 18, attributes := #[] }, { accessFlags := 10, nameIndex := 17, descriptorIndex := 18, attributes := #[] }, { accessFlags := 10, nameIndex := 21, descriptorIndex := 22, attributes := #[] }] 49 2 #[] #[])
  fields := #[]
  methods := #[k1m0, k1m1, k1m2, k1m3, k1m4]
  instanceTypes := #[]
  staticTypes := #[]
  resolved := Array.replicate 37 none
  statics := none }

def pool2 : Array CpInfo := pool [(2, .class_ 4), (1, u "java/lang/Object"), (0, u "<init>"), (0, u "()V"), (1, .class_ 10), (1, u "com/example/dosefold/dosefold/sort/Encoder"), (0, u "bytes"), (0, u "[B"), (2, u "length"), (0, u "I"), (51, u "putBits"), (0, u "([BIJ)I"), (0, .long 18446744073709551488), (1, .long 128)] 40

def k2m0 : Method := { name := "<init>", desc := "()V", sig := { parameters := [], returnType := none }, accessFlags := 1, code := none }
def k2c1 : Code := { maxStack := 6, maxLocals := 7, code := prog_200_method_11_code, exceptionTable := #[], attributes := #[] }
def k2m1 : Method := { name := "putBits", desc := "([BIJ)I", sig := { parameters := [(.array .byte), .int, .long], returnType := some .int }, accessFlags := 8, code := some k2c1 }
/-- com/example/dosefold/dosefold/sort/Encoder -/
def k2 : Class := { plain "com/example/dosefold/dosefold/sort/Encoder" (some 0) with
  accessFlags := 49
  interfaces := #[]
  cf := some (fileOf pool2 8 #[] #[{ accessFlags := 1, nameIndex := 5, descriptorIndex := 6, attributes := #[] }, { accessFlags := 8, nameIndex := 68, descriptorIndex := 69, attributes := #[] }] 49 2 #[] #[{ accessFlags := 2, nameIndex := 11, descriptorIndex := 12, attributes := #[] }, { accessFlags := 2, nameIndex := 15, descriptorIndex := 16, attributes := #[] }])
  fields := #[{ name := "bytes", type := (.array .byte), accessFlags := 2, slot := 0, constantValue := 0 }, { name := "length", type := .int, accessFlags := 2, slot := 1, constantValue := 0 }]
  methods := #[k2m0, k2m1]
  instanceTypes := #[(.array .byte), .int]
  staticTypes := #[]
  resolved := Array.replicate 113 none
  statics := none }

def pool3 : Array CpInfo := pool [(1, u "java/lang/Cloneable"), (0, .class_ 1), (0, u "java/lang/Object"), (0, .class_ 3)] 3

/-- java/lang/Cloneable -/
def k3 : Class := { plain "java/lang/Cloneable" (some 0) with
  accessFlags := 1537
  interfaces := #[]
  cf := some (fileOf pool3 2 #[] #[] 1537 4 #[] #[])
  fields := #[]
  methods := #[]
  instanceTypes := #[]
  staticTypes := #[]
  resolved := Array.replicate 8 none
  statics := none }

def pool4 : Array CpInfo := pool [(1, u "java/io/Serializable"), (0, .class_ 1), (0, u "java/lang/Object"), (0, .class_ 3)] 3

/-- java/io/Serializable -/
def k4 : Class := { plain "java/io/Serializable" (some 0) with
  accessFlags := 1537
  interfaces := #[]
  cf := some (fileOf pool4 2 #[] #[] 1537 4 #[] #[])
  fields := #[]
  methods := #[]
  instanceTypes := #[]
  staticTypes := #[]
  resolved := Array.replicate 8 none
  statics := none }

/-- the primitive byte -/
def k5 : Class := { plain "byte" none with kind := .primitive 'B', accessFlags := 0x411 }
/-- [B -/
def k6 : Class := { plain "[B" (some 0) with kind := .array 5 .byte, interfaces := #[3, 4], accessFlags := 1041 }

/-- the primitive int -/
def k7 : Class := { plain "int" none with kind := .primitive 'I', accessFlags := 0x411 }
/-- [I -/
def k8 : Class := { plain "[I" (some 0) with kind := .array 7 .int, interfaces := #[3, 4], accessFlags := 1041 }

def heap : Heap := #[]
def classes : Array Class := #[k0, k1, k2, k3, k4, k5, k6, k7, k8]
def interned : List (Array UInt16 × Addr) := []
def slotsUsed : Nat := 0
def theMethod : MethodId := ⟨1, 1⟩
def args0 : Array Value := #[.long 5, .int 7, .int 1, .int 2]
def aboutOver (below : List Frame) : State where
  vm := { classes := classes, interned := interned.toArray }
  heap := heap
  slotsUsed := slotsUsed
  threads := #[{ frames := .invoking theMethod args0 :: below }]
def below0 : List Frame := [.native { method := ⟨0, 0⟩, args := #[] }]
def about1 : State := aboutOver below0
def p0 : Program := .bare "" "" ""
def e0 : Env := launch0.env 0 0 0
theorem w_frames : about1.frames = Frame.invoking theMethod args0 :: below0 := rfl
set_option maxRecDepth 65536 in
theorem w_args : argsFit about1.vm theMethod args0 = true := by decide +kernel
set_option maxRecDepth 65536 in
theorem w_heap : heapFits about1 = true := by decide +kernel
set_option maxRecDepth 65536 in
theorem w_runnable : about1.curStatus? = some .runnable := by decide +kernel
set_option maxRecDepth 65536 in
theorem w_alone : about1.alone = true := by decide +kernel
set_option maxRecDepth 65536 in
theorem w_named : about1.methodNamed? x = some theMethod := by decide +kernel
set_option maxRecDepth 65536 in
theorem w_hears : about1.hears theMethod below0 = true := by decide +kernel
set_option maxRecDepth 65536 in
theorem w_ripe : about1.ripe theMethod args0 below0 = true := by decide +kernel
theorem w_running : about1.status = .running := rfl
set_option maxRecDepth 65536 in
theorem w_room : about1.hasRoom e0.platform room_1 = true :=
  launch0.hasRoom_least _ room_1 (by decide +kernel) (by decide +kernel) (by decide +kernel) (by decide +kernel) (by decide +kernel) (by decide +kernel)
theorem allAtoms_all (ts : List Jvm.Cond) (a : Array Jvm.Value) (st : Jvm.State) : (allAtoms ts).before a st = ts.all (fun c => c.before a st) := by
  induction ts with
  | nil => rfl
  | cons c t ih =>
    show (Jvm.Cond.and c (allAtoms t)).before a st = _
    rw [Jvm.Cond.before_and, ih, List.all_cons]
def words1 : List Jvm.Cond := Jvm.Cond.code x code maxLocals ret :: tables_1
/-- a 'code' word, met by the world's own term for the bytes: nothing is compared byte by byte -/
theorem code_word {y : MethodName} {bytes : ByteArray} {mx : Nat} {rt : Option FieldType} {a : Array Value} {s : State} {m : MethodId} {meth : Method} {c : Code} (h1 : s.methodNamed? y = some m) (h2 : s.vm.method? m = some meth) (h3 : meth.code = some c) (h4 : c.code = bytes)
    (h5 : (c.maxLocals == mx && c.exceptionTable.isEmpty && decide (c.maxStack ≤ mostOperands) && decide (meth.sig.returnType = rt) && !meth.locks && decide (parseMethodDescriptor y.desc = some meth.sig)) = true) : (Jvm.Cond.code y bytes mx rt).before a s = true := by
  simp only [Bool.and_eq_true, beq_iff_eq, Bool.not_eq_true', decide_eq_true_eq] at h5
  obtain ⟨⟨⟨⟨⟨g1, g2⟩, g3⟩, g4⟩, g5⟩, g6⟩ := h5
  simp [Cond.before, Cond.holds, Cond.value, h1, h2, h3, h4, g1, g2, g3, g4, g5, g6]
def isCode : Jvm.Cond → Bool
  | .code _ _ _ _ => true
  | _ => false
theorem all_split {L : List Jvm.Cond} {P : Jvm.Cond → Bool} (h1 : L.all (fun c => isCode c || P c) = true) (h2 : ∀ c ∈ L.filter isCode, P c = true) : L.all P = true := by
  refine List.all_eq_true.mpr fun c hc => ?_
  have h := List.all_eq_true.mp h1 c hc
  rcases Bool.eq_false_or_eq_true (isCode c) with hi | hi
  · exact h2 c (List.mem_filter.mpr ⟨hc, hi⟩)
  · simpa [hi] using h
set_option maxRecDepth 65536 in
theorem w_c0 : (Jvm.Cond.code x code maxLocals ret).before args0 about1 = true := code_word (m := ⟨1, 1⟩) (meth := k1m1) (c := k1c1) (by decide +kernel) rfl rfl rfl (by decide +kernel)
set_option maxRecDepth 65536 in
theorem w_c1 : (Jvm.Cond.code ({ cls := "com/example/dosefold/dosefold/sort/Encoder", name := "putBits", desc := "([BIJ)I" } : Jvm.MethodName) prog_200_method_11_code (7 : Nat) (Option.some Jvm.ClassFile.FieldType.int)).before args0 about1 = true := code_word (m := ⟨2, 1⟩) (meth := k2m1) (c := k2c1) (by decide +kernel) rfl rfl rfl (by decide +kernel)
set_option maxRecDepth 65536 in
theorem w_c2 : (Jvm.Cond.code ({ cls := "com/example/dosefold/dosefold/sort/EncoderPutBitsPinLaw", name := "size", desc := "(J)I" } : Jvm.MethodName) method_4_code (2 : Nat) (Option.some Jvm.ClassFile.FieldType.int)).before args0 about1 = true := code_word (m := ⟨1, 3⟩) (meth := k1m3) (c := k1c3) (by decide +kernel) rfl rfl rfl (by decide +kernel)
set_option maxRecDepth 65536 in
theorem w_c3 : (Jvm.Cond.code ({ cls := "com/example/dosefold/dosefold/sort/EncoderPutBitsPinLaw", name := "nz", desc := "(J)I" } : Jvm.MethodName) method_3_code (2 : Nat) (Option.some Jvm.ClassFile.FieldType.int)).before args0 about1 = true := code_word (m := ⟨1, 2⟩) (meth := k1m2) (c := k1c2) (by decide +kernel) rfl rfl rfl (by decide +kernel)
set_option maxRecDepth 65536 in
theorem w_c4 : (Jvm.Cond.code ({ cls := "com/example/dosefold/dosefold/sort/EncoderPutBitsPinLaw", name := "ok", desc := "([BIIJIB)Z" } : Jvm.MethodName) method_5_code (11 : Nat) (Option.some Jvm.ClassFile.FieldType.boolean)).before args0 about1 = true := code_word (m := ⟨1, 4⟩) (meth := k1m4) (c := k1c4) (by decide +kernel) rfl rfl rfl (by decide +kernel)
def codes1 : List Jvm.Cond := [Jvm.Cond.code x code maxLocals ret, Jvm.Cond.code ({ cls := "com/example/dosefold/dosefold/sort/Encoder", name := "putBits", desc := "([BIJ)I" } : Jvm.MethodName) prog_200_method_11_code (7 : Nat) (Option.some Jvm.ClassFile.FieldType.int), Jvm.Cond.code ({ cls := "com/example/dosefold/dosefold/sort/EncoderPutBitsPinLaw", name := "size", desc := "(J)I" } : Jvm.MethodName) method_4_code (2 : Nat) (Option.some Jvm.ClassFile.FieldType.int), Jvm.Cond.code ({ cls := "com/example/dosefold/dosefold/sort/EncoderPutBitsPinLaw", name := "nz", desc := "(J)I" } : Jvm.MethodName) method_3_code (2 : Nat) (Option.some Jvm.ClassFile.FieldType.int), Jvm.Cond.code ({ cls := "com/example/dosefold/dosefold/sort/EncoderPutBitsPinLaw", name := "ok", desc := "([BIIJIB)Z" } : Jvm.MethodName) method_5_code (11 : Nat) (Option.some Jvm.ClassFile.FieldType.boolean)]
set_option maxRecDepth 65536 in
theorem codes_eq : words1.filter isCode = codes1 := rfl
theorem w_codes : ∀ c ∈ words1.filter isCode, c.before args0 about1 = true := by
  rw [codes_eq]
  intro c hc
  simp only [codes1, List.mem_cons, List.not_mem_nil, or_false] at hc
  rcases hc with rfl | rfl | rfl | rfl | rfl
  · exact w_c0
  · exact w_c1
  · exact w_c2
  · exact w_c3
  · exact w_c4
set_option maxRecDepth 65536 in
theorem w_t1 : words1.all (fun c => isCode c || c.before args0 about1) = true := by decide +kernel
theorem w_tables : (allAtoms (Jvm.Cond.code x code maxLocals ret :: tables_1)).before args0 about1 = true := by
  rw [allAtoms_all]
  show words1.all (fun c => c.before args0 about1) = true
  refine all_split ?_ w_codes
  rw [w_t1]
set_option maxRecDepth 65536 in
theorem w_case : (Jvm.Cond.and given_1 narrow_1).before args0 about1 = true := by decide +kernel
theorem w_applies : (headSpec (Jvm.Cond.code x code maxLocals ret :: tables_1) room_1).applies x e0.platform about1 = true :=
  (Spec.applies_iff w_frames).mpr ⟨w_running, w_runnable, w_alone, w_named, w_hears, w_ripe, w_room, w_tables⟩
theorem atStart : AtStart classFile x code maxLocals ret World_1 tables_1 room_1 Calls_1 rest_1 Pre_1 launch0 p0 e0 about1 theMethod args0 below0 :=
  ⟨lists_1, trivial, launch0.admits_env _ _ _, launch0.least_env, fairChoices_fair.cas, fairChoices_fair.clock, w_frames, w_args, w_heap, w_applies, trivial, trivial, w_case⟩
end start1
theorem witness_1 : WitnessClaimed_1 := ⟨start1.p0, start1.e0, start1.about1, start1.theMethod, start1.args0, start1.below0, start1.atStart⟩
end Jvm.Pilot.@@N@@
