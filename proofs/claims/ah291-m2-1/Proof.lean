import JvmDerived
import JvmDerived.Pilot.@@N@@Statement
import JvmDerived.Pilot.@@N@@Code
set_option linter.unusedVariables false
set_option linter.unusedSimpArgs false
namespace Jvm.RoadKit
open Sem ClassFile Op Lib Jvm.Stand Jvm.Free Jvm.LawKit
section OwnKit
variable {p : Program} {l : Launch} {e : Env} {R : Room} {s : State} {m : MethodId} {args : Array Value} {below : List Frame} {meth : Method} {c : Code} {T : State} {locs : List Loc} {cells slots : Nat} {Z : State} {a0 : Array Value} {h h' : Heap} {a b : Addr}
variable {C N : Nat} {Q : Option Value → Heap → List Loc → Prop} {pc : Nat} {Ls : Array Slot} {rest : List Value}
/-- from the state A the invocation returns, with what Q says of the value, the heap and the places written -/
def own_Fin (p : Program) (e : Env) (below : List Frame) (s : State) (C N : Nat) (Q : Option Value → Heap → List Loc → Prop) (A : State) : Prop :=
  ∃ s₂ o, Steps p.tables e below A s₂ ∧ s₂.status = .running ∧ Ended s₂ below o ∧ ∃ v L, o = .returned v ∧ Q v s₂.heap L ∧ FrameEnd s o s₂ L C N
theorem own_of {A B : State} (st : ∀ t, Steps p.tables e below B t → Steps p.tables e below A t) (k : own_Fin p e below s C N Q B) : own_Fin p e below s C N Q A := by
  obtain ⟨s₂, o, h1, h2⟩ := k
  exact ⟨s₂, o, st _ h1, h2⟩
theorem own_mono {Q' : Option Value → Heap → List Loc → Prop} {A : State} (hq : ∀ v h L, Q v h L → Q' v h L) (k : own_Fin p e below s C N Q A) : own_Fin p e below s C N Q' A := by
  obtain ⟨s₂, o, h1, h2, h3, v, L, h4, h5, h6⟩ := k
  exact ⟨s₂, o, h1, h2, h3, v, L, h4, hq _ _ _ h5, h6⟩
/-- a body's contract: called with as' over the heap h0 it returns, and Q holds -/
def own_Met (l : Launch) (Z : State) (y : MethodName) (bytes : ByteArray) (maxL : Nat) (ret : Option FieldType) (rm : Room) (as' : Array Value) (h0 : Heap) (Q : Option Value → Heap → List Loc → Prop) : Prop :=
  ∀ ws : List Cond, MetFree l y (head1 (Cond.code y bytes maxL ret :: ws) rm) (fun a U => a = as' ∧ Z.Warmed39 U.vm ∧ U.heap = h0) (fun _ _ _ _ _ => True) (fun _ U o U' => ∃ v L, o = .returned v ∧ Q v U'.heap L ∧ FrameEnd U o U' L rm.cells rm.slots)
theorem own_met {y : MethodName} {bytes : ByteArray} {maxL : Nat} {ret : Option FieldType} {rm : Room} {as' : Array Value} {h0 : Heap} (hpl : plainFor y = true)
    (body : ∀ (p : Program) (e : Env) (s : State) (m : MethodId) (below : List Frame) (meth : Method) (c : Code) (T : State), Stand p l e rm s m as' below meth c T [] 0 0 → p.tables.exec = Jvm.exec → c.code = bytes → c.maxLocals = maxL → s.vm.findClass y.cls = some m.cls → Z.Warmed39 s.vm → T.heap = h0 → meth.sig.returnType = ret → meth.locks = false → meth.name = y.name →
      own_Fin p e below s rm.cells rm.slots Q (T.setTop (entryFrame m as' maxL))) : own_Met l Z y bytes maxL ret rm as' h0 Q := by
  intro ws
  refine MetFree.of_bodySF hpl hisR ?_
  intro p e s m args below meth c s₁ Bd hml0 hP hK
  obtain ⟨rfl, hZ, hh⟩ := hP
  have X0 : Stand p l e rm s m _ below meth c s₁ [] 0 0 := Stand.of_body Bd
  exact body p e s m below meth c s₁ X0 Bd.exec Bd.bytes hml0 (findClass_of_methodNamed Bd.named) hZ (by rw [← hh, Bd.state]; rfl) Bd.returns Bd.notSynchronized (name_of_methodNamed Bd.named Bd.method).1
/-! returns -/
theorem own_retI (X : Stand p l e R s m args below meth c T locs cells slots) (hx : p.tables.exec = Jvm.exec) (hlk : meth.locks = false) (eT : T.heap = h) {z : Int32} (hret : meth.sig.returnType = some .int) (hd : decode c.code pc = .ok (.ireturn, 1)) (hC : cells ≤ C) (hN : slots ≤ N) (hQ : Q (some (.int z)) h locs) :
    own_Fin p e below s C N Q (T.setTop (mkF m pc Ls (.int z :: rest))) := by
  obtain ⟨fs, hr, hrun, hended, hW, hsame⟩ := X.leave (v := some (.int z)) (fun h => by rw [hret] at h; cases h) hlk
  exact ⟨_, _, retOut X hx hret rfl (Or.inl ⟨rfl, Or.inl rfl, _, rfl⟩) hd hr, hrun, hended, _, _, rfl, (by show Q _ T.heap _; rw [eT]; exact hQ), ⟨_, rfl⟩, hW, hsame.mono hC hN⟩
theorem own_retN (X : Stand p l e R s m args below meth c T locs cells slots) (hx : p.tables.exec = Jvm.exec) (hlk : meth.locks = false) (eT : T.heap = h) {z z' : Int32} {t : FieldType} (hret : meth.sig.returnType = some t) (ht : t = .boolean ∨ t = .byte ∨ t = .char ∨ t = .short) (hd : decode c.code pc = .ok (.ireturn, 1)) (hC : cells ≤ C) (hN : slots ≤ N) (hz : nar t z = z') (hQ : Q (some (.int z')) h locs) :
    own_Fin p e below s C N Q (T.setTop (mkF m pc Ls (.int z :: rest))) := by
  subst hz
  obtain ⟨fs, hr, hrun, hended, hW, hsame⟩ := X.leave (v := some (.int (nar t z))) (fun h => by rw [hret] at h; cases h) hlk
  exact ⟨_, _, retN X hx hret ht hd hr, hrun, hended, _, _, rfl, (by show Q _ T.heap _; rw [eT]; exact hQ), ⟨_, rfl⟩, hW, hsame.mono hC hN⟩
theorem own_retJ (X : Stand p l e R s m args below meth c T locs cells slots) (hx : p.tables.exec = Jvm.exec) (hlk : meth.locks = false) (eT : T.heap = h) {z : Int64} (hret : meth.sig.returnType = some .long) (hd : decode c.code pc = .ok (.lreturn, 1)) (hC : cells ≤ C) (hN : slots ≤ N) (hQ : Q (some (.long z)) h locs) :
    own_Fin p e below s C N Q (T.setTop (mkF m pc Ls (.long z :: rest))) := by
  obtain ⟨fs, hr, hrun, hended, hW, hsame⟩ := X.leave (v := some (.long z)) (fun h => by rw [hret] at h; cases h) hlk
  exact ⟨_, _, retOut X hx hret rfl (Or.inr (Or.inl ⟨rfl, rfl, _, rfl⟩)) hd hr, hrun, hended, _, _, rfl, (by show Q _ T.heap _; rw [eT]; exact hQ), ⟨_, rfl⟩, hW, hsame.mono hC hN⟩
theorem own_retA (X : Stand p l e R s m args below meth c T locs cells slots) (hx : p.tables.exec = Jvm.exec) (hlk : meth.locks = false) (eT : T.heap = h) {t : FieldType} (ht : t.isReference = true) (hret : meth.sig.returnType = some t) (hn : narrow t (.ref a) = .ref a) (hd : decode c.code pc = .ok (.areturn, 1)) (hC : cells ≤ C) (hN : slots ≤ N) (hQ : Q (some (.ref a)) h locs) :
    own_Fin p e below s C N Q (T.setTop (mkF m pc Ls (.ref a :: rest))) := by
  obtain ⟨fs, hr, hrun, hended, hW, hsame⟩ := X.leave (v := some (.ref a)) (fun h => by rw [hret] at h; cases h) hlk
  exact ⟨_, _, retOut X hx hret hn (Or.inr (Or.inr (Or.inr (Or.inr ⟨rfl, ht, rfl⟩)))) hd hr, hrun, hended, _, _, rfl, (by show Q _ T.heap _; rw [eT]; exact hQ), ⟨_, rfl⟩, hW, hsame.mono hC hN⟩
theorem own_retV (X : Stand p l e R s m args below meth c T locs cells slots) (hx : p.tables.exec = Jvm.exec) (hlk : meth.locks = false) (eT : T.heap = h) (hret : meth.sig.returnType = none) (hd : decode c.code pc = .ok (.return_, 1)) (hC : cells ≤ C) (hN : slots ≤ N) (hQ : Q none h locs) :
    own_Fin p e below s C N Q (T.setTop (mkF m pc Ls [])) := by
  obtain ⟨fs, hr, hrun, hended, hW, hsame⟩ := X.leave (v := none) (fun _ => rfl) hlk
  exact ⟨_, _, X.returnOut hx hret hd hr, hrun, hended, _, _, rfl, (by show Q _ T.heap _; rw [eT]; exact hQ), ⟨_, rfl⟩, hW, hsame.mono hC hN⟩
/-! calls -/
theorem own_callS (X : Stand p l e R s m args below meth c T locs cells slots) (hx : p.tables.exec = Jvm.exec) (hZ : Z.Warmed39 s.vm) {own : String} {index : Nat} {y : MethodName} {bytes : ByteArray} {maxL : Nat} {ret : Option FieldType} {rm : Room} {W : Nat} {argsL : List Value} {Qc : Option Value → Heap → List Loc → Prop}
    (hown : s.vm.findClass own = some m.cls) (wl : (Cond.methodLink own index y).before a0 Z = true) (wst : (Cond.static y).before a0 Z = true) (wi : (Cond.initialized y.cls).before a0 Z = true) (wc : (Cond.code y bytes maxL ret).before a0 Z = true) (hy : y.cls ≠ "java/lang/invoke/MethodHandle" ∧ y.cls ≠ "java/lang/invoke/VarHandle")
    (eT : T.heap = h) (hM : own_Met l Z y bytes maxL ret rm argsL.toArray h Qc) (hfr : rm.frames + 1 ≤ R.frames) (hlo : W + (maxL + 11) + rm.locals ≤ R.locals) (hce : cells + rm.cells ≤ R.cells) (hsl : slots + rm.slots ≤ R.slots)
    (hsize : Ls.size = c.maxLocals) {ps : List FieldType} {r : Option FieldType} (hpd : parseMethodDescriptor y.desc = some ⟨ps, r⟩) (hlen : argsL.length = ps.length) {St : List Value} (hs : St = argsL.reverse ++ rest) (hW : (rest.map fun v => v.category).sum ≤ W) (hd : decode c.code pc = .ok (.invokestatic index, 3))
    (k : ∀ v T' h' L, Stand p l e R s m args below meth c T' (locs ++ L) (cells + rm.cells) (slots + rm.slots) → T'.heap = h' → Qc v h' L → own_Fin p e below s C N Q (T'.setTop (mkF m (pc + 3) Ls (v.toList ++ rest)))) :
    own_Fin p e below s C N Q (T.setTop (mkF m pc Ls St)) := by
  subst hs
  obtain ⟨v, _, ⟨T', L', k', n'⟩, -, X', ⟨Lc, hQ, l1, y1, z1⟩, st⟩ := Jvm.LawKit.callS X hx (y := y) hown (mvT hZ wl) (mvT hZ wst) (mvT hZ wi) (mvT hZ wc) hy (backOf (W := W) (hM []) hZ wc wi hfr hlo) (g := mkF m pc Ls (argsL.reverse ++ rest)) rfl hsize (argsL := argsL) (rest := rest) (lenOf hpd hlen) rfl (by show 2 * 0 + _ ≤ _; simpa using hW) hd (fun _ _ => ⟨rfl, eT, hce, hsl⟩)
  dsimp only [Pt.U, Pt.locs, Pt.cells, Pt.slots] at X' l1 y1 z1 st hQ
  subst l1 y1 z1
  exact own_of st (k _ _ _ _ X' rfl hQ)
def own_Pure (r : Value) (h : Heap) : Option Value → Heap → List Loc → Prop := fun v h' L => v = some r ∧ h' = h ∧ L = []
theorem own_callP (X : Stand p l e R s m args below meth c T locs cells slots) (hx : p.tables.exec = Jvm.exec) (hZ : Z.Warmed39 s.vm) {own : String} {index : Nat} {y : MethodName} {bytes : ByteArray} {maxL : Nat} {ret : Option FieldType} {fr lo : Nat} {W : Nat} {argsL : List Value} {rv : Value}
    (hown : s.vm.findClass own = some m.cls) (wl : (Cond.methodLink own index y).before a0 Z = true) (wst : (Cond.static y).before a0 Z = true) (wi : (Cond.initialized y.cls).before a0 Z = true) (wc : (Cond.code y bytes maxL ret).before a0 Z = true) (hy : y.cls ≠ "java/lang/invoke/MethodHandle" ∧ y.cls ≠ "java/lang/invoke/VarHandle")
    (eT : T.heap = h) (hM : own_Met l Z y bytes maxL ret { frames := fr, cells := 0, slots := 0, locals := lo } argsL.toArray h (own_Pure rv h)) (hfr : fr + 1 ≤ R.frames) (hlo : W + (maxL + 11) + lo ≤ R.locals) (hce : cells ≤ R.cells) (hsl : slots ≤ R.slots)
    (hsize : Ls.size = c.maxLocals) {ps : List FieldType} {r : Option FieldType} (hpd : parseMethodDescriptor y.desc = some ⟨ps, r⟩) (hlen : argsL.length = ps.length) {St : List Value} (hs : St = argsL.reverse ++ rest) (hW : (rest.map fun v => v.category).sum ≤ W) (hd : decode c.code pc = .ok (.invokestatic index, 3))
    (k : ∀ T', Stand p l e R s m args below meth c T' locs cells slots → T'.heap = h → own_Fin p e below s C N Q (T'.setTop (mkF m (pc + 3) Ls (rv :: rest)))) :
    own_Fin p e below s C N Q (T.setTop (mkF m pc Ls St)) := by
  refine own_callS X hx hZ hown wl wst wi wc hy eT hM hfr hlo hce hsl hsize hpd hlen hs hW hd ?_
  rintro v T' h' L X' e' ⟨rfl, rfl, rfl⟩
  rw [List.append_nil] at X'
  exact k T' X' e'
theorem own_callV (X : Stand p l e R s m args below meth c T locs cells slots) (hx : p.tables.exec = Jvm.exec) (hZ : Z.Warmed39 s.vm) {own K : String} {index : Nat} {y z : MethodName} {bytes : ByteArray} {maxL : Nat} {ret : Option FieldType} {rm : Room} {W : Nat} {argsL : List Value} {Qc : Option Value → Heap → List Loc → Prop}
    (hown : s.vm.findClass own = some m.cls) (wl : (Cond.methodLink own index y).before a0 Z = true) (wd : (Cond.declares y).before a0 Z = true) (hnf : NotFace s y) (wse : (Cond.selects K y z).before a0 Z = true) (win : (Cond.instanceMethod z).before a0 Z = true) (wi : (Cond.initialized z.cls).before a0 Z = true) (wc : (Cond.code z bytes maxL ret).before a0 Z = true) (hy : y.cls ≠ "java/lang/invoke/MethodHandle" ∧ y.cls ≠ "java/lang/invoke/VarHandle")
    (eT : T.heap = h) (E : Exa Z h b K) (hM : own_Met l Z z bytes maxL ret rm (.ref b :: argsL).toArray h Qc) (hfr : rm.frames + 1 ≤ R.frames) (hlo : W + (maxL + 11) + rm.locals ≤ R.locals) (hce : cells + rm.cells ≤ R.cells) (hsl : slots + rm.slots ≤ R.slots)
    (hsize : Ls.size = c.maxLocals) {ps : List FieldType} {r : Option FieldType} (hpd : parseMethodDescriptor y.desc = some ⟨ps, r⟩) (hlen : argsL.length = ps.length) {St : List Value} (hs : St = argsL.reverse ++ .ref b :: rest) (hW : (rest.map fun v => v.category).sum ≤ W) (hd : decode c.code pc = .ok (.invokevirtual index, 3))
    (k : ∀ v T' h' L, Stand p l e R s m args below meth c T' (locs ++ L) (cells + rm.cells) (slots + rm.slots) → T'.heap = h' → Qc v h' L → own_Fin p e below s C N Q (T'.setTop (mkF m (pc + 3) Ls (v.toList ++ rest)))) :
    own_Fin p e below s C N Q (T.setTop (mkF m pc Ls St)) := by
  subst hs
  obtain ⟨cq, kq, qa, qb, qc⟩ := isOf hZ eT E
  obtain ⟨v, _, ⟨T', L', k', n'⟩, -, X', ⟨Lc, hQ, l1, y1, z1⟩, st⟩ := X.virtualBack hx (y := y) (z := z) hown (mvT hZ wl) (mvT hZ wd) hnf (mvT hZ wse) (mvT hZ win) hy (backOf (W := W) (hM []) hZ wc wi hfr hlo) qa qc (g := mkF m pc Ls (argsL.reverse ++ .ref b :: rest)) rfl hsize (Steps.refl _) (argsL := argsL) (rest := rest) (lenOf hpd hlen) rfl (by show 2 * 0 + _ ≤ _; simpa using hW) hd (fun _ _ => ⟨rfl, eT, hce, hsl⟩)
  dsimp only [Pt.U, Pt.locs, Pt.cells, Pt.slots] at X' l1 y1 z1 st hQ
  subst l1 y1 z1
  exact own_of (fun t k => st.trans k) (k _ _ _ _ X' rfl hQ)
theorem own_callC (X : Stand p l e R s m args below meth c T locs cells slots) (hx : p.tables.exec = Jvm.exec) (hZ : Z.Warmed39 s.vm) {own : String} {index : Nat} {y : MethodName} {bytes : ByteArray} {maxL : Nat} {rm : Room} {W : Nat} {argsL : List Value} {Qc : Option Value → Heap → List Loc → Prop} (hn : y.name = "<init>")
    (hown : s.vm.findClass own = some m.cls) (wl : (Cond.methodLink own index y).before a0 Z = true) (win : (Cond.instanceMethod y).before a0 Z = true) (wi : (Cond.initialized y.cls).before a0 Z = true) (wc : (Cond.code y bytes maxL none).before a0 Z = true) (hy : y.cls ≠ "java/lang/invoke/MethodHandle" ∧ y.cls ≠ "java/lang/invoke/VarHandle")
    (eT : T.heap = h) (hM : own_Met l Z y bytes maxL none rm (.ref b :: argsL).toArray h Qc) (hfr : rm.frames + 1 ≤ R.frames) (hlo : W + (maxL + 11) + rm.locals ≤ R.locals) (hce : cells + rm.cells ≤ R.cells) (hsl : slots + rm.slots ≤ R.slots)
    (hsize : Ls.size = c.maxLocals) {ps : List FieldType} {r : Option FieldType} (hpd : parseMethodDescriptor y.desc = some ⟨ps, r⟩) (hlen : argsL.length = ps.length) {St : List Value} (hs : St = argsL.reverse ++ .ref b :: rest) (hW : (rest.map fun v => v.category).sum ≤ W) (hd : decode c.code pc = .ok (.invokespecial index, 3))
    (k : ∀ v T' h' L, Stand p l e R s m args below meth c T' (locs ++ L) (cells + rm.cells) (slots + rm.slots) → T'.heap = h' → Qc v h' L → own_Fin p e below s C N Q (T'.setTop (mkF m (pc + 3) Ls (v.toList ++ rest)))) :
    own_Fin p e below s C N Q (T.setTop (mkF m pc Ls St)) := by
  subst hs
  obtain ⟨v, _, ⟨T', L', k', n'⟩, -, X', ⟨Lc, hQ, l1, y1, z1⟩, st⟩ := X.specialBack hx (y := y) hn hown (mvT hZ wl) (mvT hZ win) (mvT hZ wc) hy (backOf (W := W) (hM []) hZ wc wi hfr hlo) (g := mkF m pc Ls (argsL.reverse ++ .ref b :: rest)) rfl hsize (Steps.refl _) (a := b) (argsL := argsL) (rest := rest) (lenOf hpd hlen) rfl (by show 2 * 0 + _ ≤ _; simpa using hW) hd (fun _ _ => ⟨rfl, eT, hce, hsl⟩)
  dsimp only [Pt.U, Pt.locs, Pt.cells, Pt.slots] at X' l1 y1 z1 st hQ
  subst l1 y1 z1
  exact own_of (fun t k => st.trans k) (k _ _ _ _ X' rfl hQ)
/-! arrays: n places, the j-th holds f j -/
def own_Arf (Z : State) (h : Heap) (a : Addr) (ty : FieldType) (n : Nat) (f : Nat → Value) : Prop := ∃ cl : Cell, Arr Z h a cl ty ∧ cl.slots.size = n ∧ ∀ j, j < n → cl.slots[j]? = some (f j)
section Ar
variable {ty : FieldType} {n : Nat} {f g : Nat → Value} {sl : Nat} {v : Value} {ws : List Addr}
theorem own_Arf.lt (F : own_Arf Z h a ty n f) : a < h.size := by obtain ⟨cl, A, -⟩ := F; exact A.lt
theorem own_Arf.ext (F : own_Arf Z h a ty n f) (E : Ext h h') : own_Arf Z h' a ty n f := by obtain ⟨cl, A, r⟩ := F; exact ⟨cl, A.ext E, r⟩
theorem own_Arf.other (F : own_Arf Z h b ty n f) (W : Wr h h' a sl v) (q : b ≠ a) : own_Arf Z h' b ty n f := by obtain ⟨cl, A, r⟩ := F; exact ⟨cl, A.other W q, r⟩
theorem own_Arf.keep (F : own_Arf Z h a ty n f) (K : Keep h h' ws) (q : a ∉ ws) : own_Arf Z h' a ty n f := by obtain ⟨cl, A, r⟩ := F; exact ⟨cl, ⟨K.2.1 a cl A.1 q, A.2⟩, r⟩
theorem own_Arf.congr (F : own_Arf Z h a ty n f) (q : ∀ j, j < n → f j = g j) : own_Arf Z h a ty n g := by obtain ⟨cl, A, r, s⟩ := F; exact ⟨cl, A, r, fun j hj => by rw [s j hj, q j hj]⟩
theorem own_Arf.set (F : own_Arf Z h a ty n f) (W : Wr h h' a sl v) : own_Arf Z h' a ty n (fun j => if j = sl then v else f j) := by
  obtain ⟨cl, A, r, q⟩ := F
  refine ⟨_, A.same W, by rw [sz_set]; exact r, fun j hj => ?_⟩
  by_cases u : j = sl
  · subst u; simp [Cell.setSlot, r, hj]
  · show (cl.slots.setIfInBounds sl v)[j]? = some (if j = sl then v else f j)
    rw [if_neg u, Array.getElem?_setIfInBounds_ne (Ne.symm u)]; exact q j hj
theorem own_Arf.new {k : ClassId} {z : Int32} (A : Arr Z h a (newA k ty z) ty) (hz : z.toInt = n) : own_Arf Z h a ty n (fun _ => defaultValue ty) := by
  have e : z.toNatClampNeg = n := by simp only [Int32.toNatClampNeg, hz]; rfl
  refine ⟨_, A, by rw [sz_new]; exact e, fun j hj => ?_⟩
  simp [newA, e, hj]
theorem own_in {j : Int32} {i k : Nat} (hj : j.toInt = i) (hi : i < k) : ¬ (j < 0 ∨ k ≤ j.toNatClampNeg) := by
  simp only [Int32.lt_iff_toInt_lt, Int32.toNatClampNeg, hj, Int32.reduceToInt]; omega
theorem own_nc {j : Int32} {i : Nat} (hj : j.toInt = i) : j.toNatClampNeg = i := by simp only [Int32.toNatClampNeg, hj]; rfl
theorem own_iaload (X : Stand p l e R s m args below meth c T locs cells slots) (hx : p.tables.exec = Jvm.exec) (hZ : Z.Warmed39 s.vm) (eT : T.heap = h) (F : own_Arf Z h a .int n f) {j : Int32} {i : Nat} (hj : j.toInt = i) (hi : i < n) (hv : f i = v) (hd : decode c.code pc = .ok (.iaload, 1))
    (k : own_Fin p e below s C N Q (T.setTop (mkF m (pc + 1) Ls (v :: rest)))) : own_Fin p e below s C N Q (T.setTop (mkF m pc Ls (.int j :: .ref a :: rest))) := by
  obtain ⟨cl, A, r, q⟩ := F
  exact own_of (fun t kk => X.iaload hx (j := j) (v := v) (by rw [eT]; exact A.1) (State.isArrayOf_alike hZ.alike A.2.1) A.2.2 (own_in hj (by rw [r]; exact hi)) (by rw [own_nc hj, q i hi, hv]) (g := mkF m pc Ls (.int j :: .ref a :: rest)) rfl rfl hd t kk) k
theorem own_laload (X : Stand p l e R s m args below meth c T locs cells slots) (hx : p.tables.exec = Jvm.exec) (hZ : Z.Warmed39 s.vm) (eT : T.heap = h) (F : own_Arf Z h a .long n f) {j : Int32} {i : Nat} (hj : j.toInt = i) (hi : i < n) (hv : f i = v) (hd : decode c.code pc = .ok (.laload, 1))
    (k : own_Fin p e below s C N Q (T.setTop (mkF m (pc + 1) Ls (v :: rest)))) : own_Fin p e below s C N Q (T.setTop (mkF m pc Ls (.int j :: .ref a :: rest))) := by
  obtain ⟨cl, A, r, q⟩ := F
  exact own_of (fun t kk => X.laload hx (j := j) (v := v) (by rw [eT]; exact A.1) (State.isArrayOf_alike hZ.alike A.2.1) A.2.2 (own_in hj (by rw [r]; exact hi)) (by rw [own_nc hj, q i hi, hv]) (g := mkF m pc Ls (.int j :: .ref a :: rest)) rfl rfl hd t kk) k
theorem own_caload (X : Stand p l e R s m args below meth c T locs cells slots) (hx : p.tables.exec = Jvm.exec) (hZ : Z.Warmed39 s.vm) (eT : T.heap = h) (F : own_Arf Z h a .char n f) {j : Int32} {i : Nat} (hj : j.toInt = i) (hi : i < n) (hv : f i = v) (hd : decode c.code pc = .ok (.caload, 1))
    (k : own_Fin p e below s C N Q (T.setTop (mkF m (pc + 1) Ls (v :: rest)))) : own_Fin p e below s C N Q (T.setTop (mkF m pc Ls (.int j :: .ref a :: rest))) := by
  obtain ⟨cl, A, r, q⟩ := F
  exact own_of (fun t kk => X.caload hx (j := j) (v := v) (by rw [eT]; exact A.1) (State.isArrayOf_alike hZ.alike A.2.1) A.2.2 (own_in hj (by rw [r]; exact hi)) (by rw [own_nc hj, q i hi, hv]) (g := mkF m pc Ls (.int j :: .ref a :: rest)) rfl rfl hd t kk) k
theorem own_baload (X : Stand p l e R s m args below meth c T locs cells slots) (hx : p.tables.exec = Jvm.exec) (hZ : Z.Warmed39 s.vm) (eT : T.heap = h) (F : own_Arf Z h a .byte n f) {j : Int32} {i : Nat} (hj : j.toInt = i) (hi : i < n) (hv : f i = v) (hd : decode c.code pc = .ok (.baload, 1))
    (k : own_Fin p e below s C N Q (T.setTop (mkF m (pc + 1) Ls (v :: rest)))) : own_Fin p e below s C N Q (T.setTop (mkF m pc Ls (.int j :: .ref a :: rest))) := by
  obtain ⟨cl, A, r, q⟩ := F
  exact own_of (fun t kk => X.baloadBytes hx (j := j) (v := v) (by rw [eT]; exact A.1) (State.isArrayOf_alike hZ.alike A.2.1) A.2.2 (own_in hj (by rw [r]; exact hi)) (by rw [own_nc hj, q i hi, hv]) (g := mkF m pc Ls (.int j :: .ref a :: rest)) rfl rfl hd t kk) k
theorem own_zaload (X : Stand p l e R s m args below meth c T locs cells slots) (hx : p.tables.exec = Jvm.exec) (hZ : Z.Warmed39 s.vm) (eT : T.heap = h) (F : own_Arf Z h a .boolean n f) {j : Int32} {i : Nat} (hj : j.toInt = i) (hi : i < n) (hv : f i = v) (hd : decode c.code pc = .ok (.baload, 1))
    (k : own_Fin p e below s C N Q (T.setTop (mkF m (pc + 1) Ls (v :: rest)))) : own_Fin p e below s C N Q (T.setTop (mkF m pc Ls (.int j :: .ref a :: rest))) := by
  obtain ⟨cl, A, r, q⟩ := F
  exact own_of (fun t kk => X.baloadBooleans hx (j := j) (v := v) (by rw [eT]; exact A.1) (State.isArrayOf_alike hZ.alike A.2.1) A.2.2 (own_in hj (by rw [r]; exact hi)) (by rw [own_nc hj, q i hi, hv]) (g := mkF m pc Ls (.int j :: .ref a :: rest)) rfl rfl hd t kk) k
theorem own_arraylength (X : Stand p l e R s m args below meth c T locs cells slots) (hx : p.tables.exec = Jvm.exec) (hZ : Z.Warmed39 s.vm) (eT : T.heap = h) (F : own_Arf Z h a ty n f) {z : Int32} (hz : z.toInt = n) (hd : decode c.code pc = .ok (.arraylength, 1))
    (k : own_Fin p e below s C N Q (T.setTop (mkF m (pc + 1) Ls (.int z :: rest)))) : own_Fin p e below s C N Q (T.setTop (mkF m pc Ls (.ref a :: rest))) := by
  obtain ⟨cl, A, r, q⟩ := F
  have e1 : cl.slots.size.toInt32 = z := by
    have hlt := Int32.toInt_lt z
    apply Int32.toInt_inj.mp
    rw [r, len_toInt (by omega), hz]
  refine own_of (fun t kk => X.arraylength hx (by rw [eT]; exact A.1) (State.isArrayOf_alike hZ.alike A.2.1) (g := mkF m pc Ls (.ref a :: rest)) rfl rfl hd t kk) ?_
  rw [e1]; exact k
variable {n0 : Nat}
theorem own_st {kd : Value} {i : Nat} {j : Int32} (hj : j.toInt = i) (F : own_Arf Z h a ty n f) (hN : Fr n0 locs) (ge : n0 ≤ a) {A : State} {fr : JFrame}
    (hst : ∃ T' h', Stand p l e R s m args below meth c T' (locs ++ [⟨a, j.toNatClampNeg⟩]) cells slots ∧ T'.heap = h' ∧ Wr h h' a j.toNatClampNeg kd ∧ ∀ target, Steps p.tables e below (T'.setTop fr) target → Steps p.tables e below A target)
    (k : ∀ T' h' locs', Stand p l e R s m args below meth c T' locs' cells slots → Fr n0 locs' → T'.heap = h' → Wr h h' a i kd → own_Arf Z h' a ty n (fun j => if j = i then kd else f j) → own_Fin p e below s C N Q (T'.setTop fr)) :
    own_Fin p e below s C N Q A := by
  obtain ⟨T', h', X', e', W, st⟩ := hst
  have hN' := Fr.snoc X' hN ge
  rw [own_nc hj] at W
  exact own_of st (k T' h' _ X' hN' e' W (F.set W))
theorem own_iastore (X : Stand p l e R s m args below meth c T locs cells slots) (hx : p.tables.exec = Jvm.exec) (hZ : Z.Warmed39 s.vm) (eT : T.heap = h) (F : own_Arf Z h a .int n f) (hN : Fr n0 locs) (ge : n0 ≤ a) {j x : Int32} {i : Nat} (hj : j.toInt = i) (hi : i < n) (hd : decode c.code pc = .ok (.iastore, 1))
    (k : ∀ T' h' locs', Stand p l e R s m args below meth c T' locs' cells slots → Fr n0 locs' → T'.heap = h' → Wr h h' a i (.int x) → own_Arf Z h' a .int n (fun j => if j = i then .int x else f j) → own_Fin p e below s C N Q (T'.setTop (mkF m (pc + 1) Ls rest))) :
    own_Fin p e below s C N Q (T.setTop (mkF m pc Ls (.int x :: .int j :: .ref a :: rest))) := by
  have F' := F
  obtain ⟨cl, A, r, q⟩ := F
  exact own_st hj F' hN ge (stI X hx hZ eT A (j := j) (own_in hj (by rw [r]; exact hi)) (g := mkF m pc Ls (.int x :: .int j :: .ref a :: rest)) rfl rfl hd) k
theorem own_lastore (X : Stand p l e R s m args below meth c T locs cells slots) (hx : p.tables.exec = Jvm.exec) (hZ : Z.Warmed39 s.vm) (eT : T.heap = h) (F : own_Arf Z h a .long n f) (hN : Fr n0 locs) (ge : n0 ≤ a) {j : Int32} {x : Int64} {i : Nat} (hj : j.toInt = i) (hi : i < n) (hd : decode c.code pc = .ok (.lastore, 1))
    (k : ∀ T' h' locs', Stand p l e R s m args below meth c T' locs' cells slots → Fr n0 locs' → T'.heap = h' → Wr h h' a i (.long x) → own_Arf Z h' a .long n (fun j => if j = i then .long x else f j) → own_Fin p e below s C N Q (T'.setTop (mkF m (pc + 1) Ls rest))) :
    own_Fin p e below s C N Q (T.setTop (mkF m pc Ls (.long x :: .int j :: .ref a :: rest))) := by
  have F' := F
  obtain ⟨cl, A, r, q⟩ := F
  exact own_st hj F' hN ge (stJ X hx hZ eT A (j := j) (own_in hj (by rw [r]; exact hi)) (g := mkF m pc Ls (.long x :: .int j :: .ref a :: rest)) rfl rfl hd) k
theorem own_bastore (X : Stand p l e R s m args below meth c T locs cells slots) (hx : p.tables.exec = Jvm.exec) (hZ : Z.Warmed39 s.vm) (eT : T.heap = h) (F : own_Arf Z h a .byte n f) (hN : Fr n0 locs) (ge : n0 ≤ a) {j x : Int32} {i : Nat} (hj : j.toInt = i) (hi : i < n) (hd : decode c.code pc = .ok (.bastore, 1))
    (k : ∀ T' h' locs', Stand p l e R s m args below meth c T' locs' cells slots → Fr n0 locs' → T'.heap = h' → Wr h h' a i (.int x.toInt8.toInt32) → own_Arf Z h' a .byte n (fun j => if j = i then .int x.toInt8.toInt32 else f j) → own_Fin p e below s C N Q (T'.setTop (mkF m (pc + 1) Ls rest))) :
    own_Fin p e below s C N Q (T.setTop (mkF m pc Ls (.int x :: .int j :: .ref a :: rest))) := by
  have F' := F
  obtain ⟨cl, A, r, q⟩ := F
  exact own_st hj F' hN ge (stB X hx hZ eT A (j := j) (own_in hj (by rw [r]; exact hi)) (g := mkF m pc Ls (.int x :: .int j :: .ref a :: rest)) rfl rfl hd) k
theorem own_castore (X : Stand p l e R s m args below meth c T locs cells slots) (hx : p.tables.exec = Jvm.exec) (hZ : Z.Warmed39 s.vm) (eT : T.heap = h) (F : own_Arf Z h a .char n f) (hN : Fr n0 locs) (ge : n0 ≤ a) {j x : Int32} {i : Nat} (hj : j.toInt = i) (hi : i < n) (hd : decode c.code pc = .ok (.castore, 1))
    (k : ∀ T' h' locs', Stand p l e R s m args below meth c T' locs' cells slots → Fr n0 locs' → T'.heap = h' → Wr h h' a i (.int x.toUInt32.toUInt16.toUInt32.toInt32) → own_Arf Z h' a .char n (fun j => if j = i then .int x.toUInt32.toUInt16.toUInt32.toInt32 else f j) → own_Fin p e below s C N Q (T'.setTop (mkF m (pc + 1) Ls rest))) :
    own_Fin p e below s C N Q (T.setTop (mkF m pc Ls (.int x :: .int j :: .ref a :: rest))) := by
  have F' := F
  obtain ⟨cl, A, r, q⟩ := F
  exact own_st hj F' hN ge (stC X hx hZ eT A (j := j) (own_in hj (by rw [r]; exact hi)) (g := mkF m pc Ls (.int x :: .int j :: .ref a :: rest)) rfl rfl hd) k
theorem own_zastore (X : Stand p l e R s m args below meth c T locs cells slots) (hx : p.tables.exec = Jvm.exec) (hZ : Z.Warmed39 s.vm) (eT : T.heap = h) (F : own_Arf Z h a .boolean n f) (hN : Fr n0 locs) (ge : n0 ≤ a) {j x : Int32} {i : Nat} (hj : j.toInt = i) (hi : i < n) (hd : decode c.code pc = .ok (.bastore, 1))
    (k : ∀ T' h' locs', Stand p l e R s m args below meth c T' locs' cells slots → Fr n0 locs' → T'.heap = h' → Wr h h' a i (.int (x &&& 1)) → own_Arf Z h' a .boolean n (fun j => if j = i then .int (x &&& 1) else f j) → own_Fin p e below s C N Q (T'.setTop (mkF m (pc + 1) Ls rest))) :
    own_Fin p e below s C N Q (T.setTop (mkF m pc Ls (.int x :: .int j :: .ref a :: rest))) := by
  have F' := F
  obtain ⟨cl, A, r, q⟩ := F
  exact own_st hj F' hN ge (stZ X hx hZ eT A (j := j) (own_in hj (by rw [r]; exact hi)) (g := mkF m pc Ls (.int x :: .int j :: .ref a :: rest)) rfl rfl hd) k
theorem own_newP (X : Stand p l e R s m args below meth c T locs cells slots) (hx : p.tables.exec = Jvm.exec) (hZ : Z.Warmed39 s.vm) {aty : ArrayType} (w : (Cond.arrayClass (newarray.typeOf aty)).before a0 Z = true) (eT : T.heap = h) (hd : decode c.code pc = .ok (.newarray aty, 2)) {z : Int32} (hz : z.toInt = n) {cap : Nat} (hcap : n ≤ cap) (hb : cap * 8 ≤ 536870912) (hc : cells + 1 ≤ R.cells) (hl : slots + cap ≤ R.slots)
    (k : ∀ T' h' b, Stand p l e R s m args below meth c T' locs (cells + 1) (slots + cap) → T'.heap = h' → Ext h h' → b = h.size → own_Arf Z h' b (newarray.typeOf aty) n (fun _ => defaultValue (newarray.typeOf aty)) → own_Fin p e below s C N Q (T'.setTop (mkF m (pc + 2) Ls (.ref b :: rest)))) :
    own_Fin p e below s C N Q (T.setTop (mkF m pc Ls (.int z :: rest))) := by
  obtain ⟨T', h', cA, X', e', E, A, st⟩ := newP X hx hZ w eT (g := mkF m pc Ls (.int z :: rest)) rfl hd rfl (by rw [Int32.lt_iff_toInt_lt, hz]; show ¬ (n : Int) < 0; omega) (cap := cap) (by rw [own_nc hz]; exact hcap) hb hc hl
  exact own_of st (k T' h' _ X' e' E rfl (own_Arf.new A hz))
end Ar
/-! objects -/
section Ob
variable {n0 : Nat} {v : Value}
theorem own_getF (X : Stand p l e R s m args below meth c T locs cells slots) (hx : p.tables.exec = Jvm.exec) (hZ : Z.Warmed39 s.vm) {own O n d : String} {index : Nat} (hown : s.vm.findClass own = some m.cls) (w : (Cond.fieldLink own index O n d).before a0 Z = true) (eT : T.heap = h) (F : Fld Z h a O n d v) (hd : decode c.code pc = .ok (.getfield index, 3))
    (k : ∀ T', Stand p l e R s m args below meth c T' locs cells slots → T'.heap = h → own_Fin p e below s C N Q (T'.setTop (mkF m (pc + 3) Ls (v :: rest)))) :
    own_Fin p e below s C N Q (T.setTop (mkF m pc Ls (.ref a :: rest))) := by
  obtain ⟨T', X', e', st⟩ := getF X hx hZ hown (host := "") (Or.inl w) Via.refl eT F (g := mkF m pc Ls (.ref a :: rest)) rfl rfl hd
  exact own_of st (k T' X' e')
theorem own_putF (X : Stand p l e R s m args below meth c T locs cells slots) (hx : p.tables.exec = Jvm.exec) (hZ : Z.Warmed39 s.vm) {own O n d K : String} {index kk : Nat} {ty : FieldType} {old : Value} (hown : s.vm.findClass own = some m.cls) (w : (Cond.fieldLink own index O n d).before a0 Z = true) (eT : T.heap = h) (F : Fld Z h a O n d old) (E : Exa Z h a K)
    (L : (Cond.lays K O n d).before a0 Z = true ∨ ((Cond.laysFinal K O n d).before a0 Z = true ∧ own = O ∧ meth.name = "<init>")) (wi : (Cond.instantiable K kk).before a0 Z = true) (hty : parseFieldDescriptor d = some ty) (hn : narrow ty v = v) (hf : fits ty v = true) (hN : Fr n0 locs) (ge : n0 ≤ a) (hd : decode c.code pc = .ok (.putfield index, 3))
    (k : ∀ T' h' locs', Stand p l e R s m args below meth c T' locs' cells slots → Fr n0 locs' → T'.heap = h' → Wr h h' a (slotOf Z O n d) v → own_Fin p e below s C N Q (T'.setTop (mkF m (pc + 3) Ls rest))) :
    own_Fin p e below s C N Q (T.setTop (mkF m pc Ls (v :: .ref a :: rest))) := by
  obtain ⟨T', h', X', e', W, st⟩ := putF X hx hZ hown (host := "") (Or.inl w) Via.refl eT F E L wi hty hn hf (g := mkF m pc Ls (v :: .ref a :: rest)) rfl rfl hd
  exact own_of st (k T' h' _ X' (Fr.snoc X' hN ge) e' W)
theorem own_newO (X : Stand p l e R s m args below meth c T locs cells slots) (hx : p.tables.exec = Jvm.exec) (hZ : Z.Warmed39 s.vm) {own K : String} {index n : Nat} (hown : s.vm.findClass own = some m.cls) (w : (Cond.classLink own index K).before a0 Z = true) (wi : (Cond.instantiable K n).before a0 Z = true) (wz : (Cond.initialized K).before a0 Z = true) (eT : T.heap = h) (hd : decode c.code pc = .ok (.new index, 3)) (hc : cells + 1 ≤ R.cells) (hl : slots + n ≤ R.slots)
    (k : ∀ T' h' b, Stand p l e R s m args below meth c T' locs (cells + 1) (slots + n) → T'.heap = h' → Ext h h' → b = h.size → Exa Z h' b K → (∀ {O nm d : String} {ty : FieldType}, Laid Z a0 K O nm d → parseFieldDescriptor d = some ty → Fld Z h' b O nm d (defaultValue ty)) → own_Fin p e below s C N Q (T'.setTop (mkF m (pc + 3) Ls (.ref b :: rest)))) :
    own_Fin p e below s C N Q (T.setTop (mkF m pc Ls rest)) := by
  obtain ⟨T', h', X', e', E, A, D, -, st⟩ := newO X hx hZ hown w wi wz eT (g := mkF m pc Ls rest) rfl hd hc hl
  exact own_of st (k T' h' _ X' e' E rfl A D)
theorem own_initO (X : Stand p l e R s m args below meth c T locs cells slots) (hx : p.tables.exec = Jvm.exec) (hZ : Z.Warmed39 s.vm) {own : String} {idx : Nat} (hown : s.vm.findClass own = some m.cls) (w1 : (Cond.methodLink own idx Lib.objectInit).before a0 Z = true) (w2 : (Cond.instanceMethod Lib.objectInit).before a0 Z = true) (w3 : (Cond.code Lib.objectInit ⟨#[0xb1]⟩ 1 none).before a0 Z = true) (eT : T.heap = h) (hsize : Ls.size = c.maxLocals) (hd : decode c.code pc = .ok (.invokespecial idx, 3)) (hf : 1 ≤ R.frames) {W : Nat} (hW : (rest.map fun v => v.category).sum ≤ W) (hl : W + 12 ≤ R.locals)
    (k : ∀ T', Stand p l e R s m args below meth c T' locs cells slots → T'.heap = h → own_Fin p e below s C N Q (T'.setTop (mkF m (pc + 3) Ls rest))) :
    own_Fin p e below s C N Q (T.setTop (mkF m pc Ls (.ref a :: rest))) := by
  obtain ⟨T', X', e', st⟩ := initO X hx hZ hown w1 w2 w3 eT (g := mkF m pc Ls (.ref a :: rest)) rfl hsize rfl hd hf (W := W) (by show 2 * 0 + _ ≤ _; simpa using hW) hl
  exact own_of st (k T' X' e')
theorem own_wide (X : Stand p l e R s m args below meth c T locs cells slots) {cells' slots' : Nat} (h1 : cells ≤ cells') (h2 : slots ≤ slots') : Stand p l e R s m args below meth c T locs cells' slots' := { X with same := X.same.mono h1 h2 }
end Ob
theorem own_lremM {g : JFrame} {target : State} (X : Stand p l e R s m args below meth c T locs cells slots) (hx : p.tables.exec = Jvm.exec) (hg : g.method = m) {x y : Int64} (hd : decode c.code g.pc = .ok (.lrem, 1)) (hs : g.stack = .long y :: .long x :: rest) (hy : y ≠ 0)
    (hr : Steps p.tables e below (T.setTop { g with pc := g.pc + 1, stack := .long (x % y) :: rest }) target) : Steps p.tables e below (T.setTop g) target := by
  refine XS.lrem X.here hx hg hd hs hy ?_
  rw [lrem_mod]; exact hr
end OwnKit
def own_iushr (x y : Int32) : Int32 := (x.toUInt32 >>> (y &&& 31).toUInt32).toInt32
def own_ishl (x y : Int32) : Int32 := x <<< (y &&& 31)
def own_ishr (x y : Int32) : Int32 := x >>> (y &&& 31)
def own_lushr (x : Int64) (y : Int32) : Int64 := (x.toUInt64 >>> (y &&& 0x3f).toInt64.toUInt64).toInt64
def own_lshl (x : Int64) (y : Int32) : Int64 := x <<< (y &&& 0x3f).toInt64
def own_lshr (x : Int64) (y : Int32) : Int64 := x >>> (y &&& 0x3f).toInt64
def own_i2b (x : Int32) : Int32 := x.toInt8.toInt32
def own_i2c (x : Int32) : Int32 := x.toUInt32.toUInt16.toUInt32.toInt32
def own_i2s (x : Int32) : Int32 := x.toInt16.toInt32
end Jvm.RoadKit
namespace Jvm.Pilot.@@N@@
open Jvm Jvm.ClassFile Sem Op Lib Jvm.Free Jvm.Stand Jvm.LawKit Jvm.RoadKit Bundle Jvm.Pilot.@@N@@.Jvm.D
theorem d1_0 : decode prog_74_method_2_code 0 = .ok (.iload_n 0, 1) := by decide +kernel
theorem d1_1 : decode prog_74_method_2_code 1 = .ok (.sipush 128, 3) := by decide +kernel
theorem d1_4 : decode prog_74_method_2_code 4 = .ok (.if_icmp .ge 8, 3) := by decide +kernel
theorem d1_7 : decode prog_74_method_2_code 7 = .ok (.iconst 1, 1) := by decide +kernel
theorem d1_8 : decode prog_74_method_2_code 8 = .ok (.istore_n 1, 1) := by decide +kernel
theorem d1_9 : decode prog_74_method_2_code 9 = .ok (.goto 28, 3) := by decide +kernel
theorem d1_12 : decode prog_74_method_2_code 12 = .ok (.iload_n 0, 1) := by decide +kernel
theorem d1_13 : decode prog_74_method_2_code 13 = .ok (.sipush 2048, 3) := by decide +kernel
theorem d1_16 : decode prog_74_method_2_code 16 = .ok (.if_icmp .ge 8, 3) := by decide +kernel
theorem d1_19 : decode prog_74_method_2_code 19 = .ok (.iconst 2, 1) := by decide +kernel
theorem d1_20 : decode prog_74_method_2_code 20 = .ok (.istore_n 1, 1) := by decide +kernel
theorem d1_21 : decode prog_74_method_2_code 21 = .ok (.goto 16, 3) := by decide +kernel
theorem d1_24 : decode prog_74_method_2_code 24 = .ok (.iload_n 0, 1) := by decide +kernel
theorem d1_25 : decode prog_74_method_2_code 25 = .ok (.ldc 7, 2) := by decide +kernel
theorem d1_27 : decode prog_74_method_2_code 27 = .ok (.if_icmp .ge 8, 3) := by decide +kernel
theorem d1_30 : decode prog_74_method_2_code 30 = .ok (.iconst 3, 1) := by decide +kernel
theorem d1_31 : decode prog_74_method_2_code 31 = .ok (.istore_n 1, 1) := by decide +kernel
theorem d1_32 : decode prog_74_method_2_code 32 = .ok (.goto 5, 3) := by decide +kernel
theorem d1_35 : decode prog_74_method_2_code 35 = .ok (.iconst 4, 1) := by decide +kernel
theorem d1_36 : decode prog_74_method_2_code 36 = .ok (.istore_n 1, 1) := by decide +kernel
theorem d1_37 : decode prog_74_method_2_code 37 = .ok (.iload_n 1, 1) := by decide +kernel
theorem d1_38 : decode prog_74_method_2_code 38 = .ok (.ireturn, 1) := by decide +kernel
theorem pd_0 : parseMethodDescriptor "(I)I" = some ⟨[.int], some .int⟩ := by decide +kernel
theorem pd_1 : parseMethodDescriptor "(II)Z" = some ⟨[.int, .int], some .boolean⟩ := by decide +kernel
theorem pn_0 : plainFor x = true := plainFor_of_name (by first | (simp [plainName, overriddenIn]; done) | decide +kernel)
theorem ef_0 (m : MethodId) (x0 : Int32) (x1 : Int32) : entryFrame m #[(.int x0), (.int x1)] maxLocals = mkF m 0 #[.val (.int x0), .val (.int x1), .unset, .unset, .unset] [] := by first | (simp [entryFrame, mkF, argsToLocals, Value.category, maxLocals]; done) | rfl
theorem pn_1 : plainFor (⟨"com/example/tablewright/tablewright/io/Utf8", "length", "(I)I"⟩ : MethodName) = true := plainFor_of_name (by first | (simp [plainName, overriddenIn]; done) | decide +kernel)
theorem ef_1 (m : MethodId) (x0 : Int32) : entryFrame m #[(.int x0)] 2 = mkF m 0 #[.val (.int x0), .unset] [] := by first | (simp [entryFrame, mkF, argsToLocals, Value.category]; done) | rfl
theorem own_all8 {P : Int8 → Prop} (h : ∀ n : Fin 256, P (.ofBitVec (.ofFin n))) (b : Int8) : P b := by
  have := h b.toBitVec.toFin
  simpa using this
theorem own_fin (x : Int32) (K : Nat) (h0 : 0 ≤ x.toInt) (h1 : x.toInt < K) : ∃ n : Nat, n < K ∧ x = Int32.ofInt (n : Int) :=
  ⟨x.toInt.toNat, by omega, by rw [Int.toNat_of_nonneg h0, Int32.ofInt_toInt]⟩
theorem own_lushr_nat (x : Int64) (q : Int32) (k : Nat) (hk : q.toBitVec.toNat % 64 = k) : (own_lushr x q).toBitVec.toNat = x.toBitVec.toNat / 2 ^ k := by
  show (x.toBitVec >>> ((q &&& 0x3f).toInt64.toBitVec % 64)).toNat = _
  rw [BitVec.ushiftRight_eq', BitVec.toNat_ushiftRight, Nat.shiftRight_eq_div_pow, BitVec.toNat_umod, (sm64 q k hk).1, BitVec.toNat_ofNat]
  congr 2
  have := (sm64 q k hk).2
  show k % 2 ^ 64 % 64 = k
  omega
theorem own_l0 (x : Int64) : x = 0 ↔ x.toBitVec.toNat = 0 := ⟨fun h => by subst h; rfl, fun h => Int64.toBitVec_inj.mp (BitVec.eq_of_toNat_eq h)⟩
theorem own_shsh (x : Int64) (a b c : Int32) (i j : Nat) (ha : a.toBitVec.toNat % 64 = i) (hb : b.toBitVec.toNat % 64 = j) (hc : c.toBitVec.toNat % 64 = i + j) : own_lushr (own_lushr x a) b = own_lushr x c := by
  apply Int64.toBitVec_inj.mp
  apply BitVec.eq_of_toNat_eq
  rw [own_lushr_nat _ b j hb, own_lushr_nat x a i ha, own_lushr_nat x c _ hc, Nat.div_div_eq_div_mul, Nat.pow_add]
theorem own_shz (x : Int64) (a b : Int32) (i j : Nat) (ha : a.toBitVec.toNat % 64 = i) (hb : b.toBitVec.toNat % 64 = j) (h : 64 ≤ i + j) : own_lushr (own_lushr x a) b = 0 := by
  rw [own_l0, own_lushr_nat _ b j hb, own_lushr_nat x a i ha, Nat.div_div_eq_div_mul, ← Nat.pow_add]
  exact Nat.div_eq_of_lt (Nat.lt_of_lt_of_le x.toBitVec.isLt (Nat.pow_le_pow_right (by decide) h))
theorem own_true {P : Prop} [Decidable P] (h : P) : ((if P then (1 : Int32) else (0 : Int32)) &&& 1) = 1 := by rw [if_pos h]; rfl
def own_m1_37a (x0 : Int32) : Int32 := (if x0 < (128 : Int32) then (1 : Int32) else (if x0 < (2048 : Int32) then (2 : Int32) else (if x0 < (65536 : Int32) then (3 : Int32) else (4 : Int32))))
def own_f1 (x0 : Int32) : Int32 := (own_m1_37a x0)
set_option maxRecDepth 65536 in
set_option maxHeartbeats 40000000 in
theorem met1 (l : Launch) (Z : State) (a0 : Array Value) (hw : ∀ d ∈ tables_1, d.before a0 Z = true) (x0 : Int32) (h0 : Heap) :
    own_Met l Z (⟨"com/example/tablewright/tablewright/io/Utf8", "length", "(I)I"⟩ : MethodName) prog_74_method_2_code 2 (some .int) { frames := 0, cells := 0, slots := 0, locals := 0 } #[(.int x0)] h0 (own_Pure (.int (own_f1 x0)) h0) := by
  refine own_met pn_1 ?_
  intro p e s m below meth c T0 X0 hx hby hml hown hZ e0 hret hlk hnm
  rw [ef_1 m x0]
  show own_Fin _ _ _ _ _ _ _ (T0.setTop (mkF m 0 #[.val (.int x0), .unset] []))
  refine own_of (fun _ kk => XS.iloadN X0.here hx rfl (hb hby d1_0) rfl kk) ?_
  show own_Fin _ _ _ _ _ _ _ (T0.setTop (mkF m 1 #[.val (.int x0), .unset] [(.int x0)]))
  refine own_of (fun _ kk => XS.sipush X0.here hx rfl (hb hby d1_1) kk) ?_
  show own_Fin _ _ _ _ _ _ _ (T0.setTop (mkF m 4 #[.val (.int x0), .unset] [(.int (128 : Int32)), (.int x0)]))
  suffices k1 : own_Fin _ _ _ _ _ _ _ (T0.setTop (mkF m 37 #[.val (.int x0), .val (.int (own_m1_37a x0))] [])) by
    by_cases c4 : x0 < (128 : Int32)
    · refine own_of (fun _ kk => XS.icmpNo X0.here hx rfl (hb hby d1_4) rfl (tlt c4).2.1 kk) ?_
      show own_Fin _ _ _ _ _ _ _ (T0.setTop (mkF m 7 #[.val (.int x0), .unset] []))
      refine own_of (fun _ kk => XS.iconst X0.here hx rfl (hb hby d1_7) kk) ?_
      show own_Fin _ _ _ _ _ _ _ (T0.setTop (mkF m 8 #[.val (.int x0), .unset] [(.int (1 : Int32))]))
      refine own_of (fun _ kk => XS.istoreN X0.here hx rfl (hb hby d1_8) rfl (l' := #[.val (.int x0), .val (.int (1 : Int32))]) rfl kk) ?_
      show own_Fin _ _ _ _ _ _ _ (T0.setTop (mkF m 9 #[.val (.int x0), .val (.int (1 : Int32))] []))
      refine own_of (fun _ kk => XS.goto X0.here hx rfl (pc0 := 9) (pc' := 37) rfl (hb hby d1_9) (by decide) (by decide) kk) ?_
      show own_Fin _ _ _ _ _ _ _ (T0.setTop (mkF m 37 #[.val (.int x0), .val (.int (1 : Int32))] []))
      simp only [own_m1_37a, if_pos c4] at k1 ⊢
      exact k1
    · refine own_of (fun _ kk => XS.icmpYes X0.here hx rfl (pc0 := 4) (pc' := 12) rfl (hb hby d1_4) rfl (flt c4).2.1 (by decide) (by decide) kk) ?_
      show own_Fin _ _ _ _ _ _ _ (T0.setTop (mkF m 12 #[.val (.int x0), .unset] []))
      refine own_of (fun _ kk => XS.iloadN X0.here hx rfl (hb hby d1_12) rfl kk) ?_
      show own_Fin _ _ _ _ _ _ _ (T0.setTop (mkF m 13 #[.val (.int x0), .unset] [(.int x0)]))
      refine own_of (fun _ kk => XS.sipush X0.here hx rfl (hb hby d1_13) kk) ?_
      show own_Fin _ _ _ _ _ _ _ (T0.setTop (mkF m 16 #[.val (.int x0), .unset] [(.int (2048 : Int32)), (.int x0)]))
      by_cases c16 : x0 < (2048 : Int32)
      · refine own_of (fun _ kk => XS.icmpNo X0.here hx rfl (hb hby d1_16) rfl (tlt c16).2.1 kk) ?_
        show own_Fin _ _ _ _ _ _ _ (T0.setTop (mkF m 19 #[.val (.int x0), .unset] []))
        refine own_of (fun _ kk => XS.iconst X0.here hx rfl (hb hby d1_19) kk) ?_
        show own_Fin _ _ _ _ _ _ _ (T0.setTop (mkF m 20 #[.val (.int x0), .unset] [(.int (2 : Int32))]))
        refine own_of (fun _ kk => XS.istoreN X0.here hx rfl (hb hby d1_20) rfl (l' := #[.val (.int x0), .val (.int (2 : Int32))]) rfl kk) ?_
        show own_Fin _ _ _ _ _ _ _ (T0.setTop (mkF m 21 #[.val (.int x0), .val (.int (2 : Int32))] []))
        refine own_of (fun _ kk => XS.goto X0.here hx rfl (pc0 := 21) (pc' := 37) rfl (hb hby d1_21) (by decide) (by decide) kk) ?_
        show own_Fin _ _ _ _ _ _ _ (T0.setTop (mkF m 37 #[.val (.int x0), .val (.int (2 : Int32))] []))
        simp only [own_m1_37a, if_neg c4, if_pos c16] at k1 ⊢
        exact k1
      · refine own_of (fun _ kk => XS.icmpYes X0.here hx rfl (pc0 := 16) (pc' := 24) rfl (hb hby d1_16) rfl (flt c16).2.1 (by decide) (by decide) kk) ?_
        show own_Fin _ _ _ _ _ _ _ (T0.setTop (mkF m 24 #[.val (.int x0), .unset] []))
        refine own_of (fun _ kk => XS.iloadN X0.here hx rfl (hb hby d1_24) rfl kk) ?_
        show own_Fin _ _ _ _ _ _ _ (T0.setTop (mkF m 25 #[.val (.int x0), .unset] [(.int x0)]))
        refine own_of (fun _ kk => X0.ldcInt hx hown (mvT hZ (hw _ (List.mem_of_getElem? (i := 6) rfl))) (g := (mkF m 25 #[.val (.int x0), .unset] [(.int x0)])) rfl (hb hby d1_25) _ kk) ?_
        show own_Fin _ _ _ _ _ _ _ (T0.setTop (mkF m 27 #[.val (.int x0), .unset] [(.int (65536 : Int32)), (.int x0)]))
        by_cases c27 : x0 < (65536 : Int32)
        · refine own_of (fun _ kk => XS.icmpNo X0.here hx rfl (hb hby d1_27) rfl (tlt c27).2.1 kk) ?_
          show own_Fin _ _ _ _ _ _ _ (T0.setTop (mkF m 30 #[.val (.int x0), .unset] []))
          refine own_of (fun _ kk => XS.iconst X0.here hx rfl (hb hby d1_30) kk) ?_
          show own_Fin _ _ _ _ _ _ _ (T0.setTop (mkF m 31 #[.val (.int x0), .unset] [(.int (3 : Int32))]))
          refine own_of (fun _ kk => XS.istoreN X0.here hx rfl (hb hby d1_31) rfl (l' := #[.val (.int x0), .val (.int (3 : Int32))]) rfl kk) ?_
          show own_Fin _ _ _ _ _ _ _ (T0.setTop (mkF m 32 #[.val (.int x0), .val (.int (3 : Int32))] []))
          refine own_of (fun _ kk => XS.goto X0.here hx rfl (pc0 := 32) (pc' := 37) rfl (hb hby d1_32) (by decide) (by decide) kk) ?_
          show own_Fin _ _ _ _ _ _ _ (T0.setTop (mkF m 37 #[.val (.int x0), .val (.int (3 : Int32))] []))
          simp only [own_m1_37a, if_neg c4, if_neg c16, if_pos c27] at k1 ⊢
          exact k1
        · refine own_of (fun _ kk => XS.icmpYes X0.here hx rfl (pc0 := 27) (pc' := 35) rfl (hb hby d1_27) rfl (flt c27).2.1 (by decide) (by decide) kk) ?_
          show own_Fin _ _ _ _ _ _ _ (T0.setTop (mkF m 35 #[.val (.int x0), .unset] []))
          refine own_of (fun _ kk => XS.iconst X0.here hx rfl (hb hby d1_35) kk) ?_
          show own_Fin _ _ _ _ _ _ _ (T0.setTop (mkF m 36 #[.val (.int x0), .unset] [(.int (4 : Int32))]))
          refine own_of (fun _ kk => XS.istoreN X0.here hx rfl (hb hby d1_36) rfl (l' := #[.val (.int x0), .val (.int (4 : Int32))]) rfl kk) ?_
          show own_Fin _ _ _ _ _ _ _ (T0.setTop (mkF m 37 #[.val (.int x0), .val (.int (4 : Int32))] []))
          simp only [own_m1_37a, if_neg c4, if_neg c16, if_neg c27] at k1 ⊢
          exact k1
  show own_Fin _ _ _ _ _ _ _ (T0.setTop (mkF m 37 #[.val (.int x0), .val (.int (own_m1_37a x0))] []))
  refine own_of (fun _ kk => XS.iloadN X0.here hx rfl (hb hby d1_37) rfl kk) ?_
  show own_Fin _ _ _ _ _ _ _ (T0.setTop (mkF m 38 #[.val (.int x0), .val (.int (own_m1_37a x0))] [(.int (own_m1_37a x0))]))
  exact own_retI X0 hx hlk e0 hret (hb hby d1_38) (by decide) (by decide) ⟨by first | rfl | (simp only [own_f1]; done), rfl, rfl⟩
def own_m0_72a (x0 : Int32) (x1 : Int32) : Int32 := (if ((x0 &&& (3 : Int32)) + (1 : Int32)) = (1 : Int32) then ((x1 &&& (2147483647 : Int32)) % (128 : Int32)) else (if ((x0 &&& (3 : Int32)) + (1 : Int32)) = (2 : Int32) then ((128 : Int32) + ((x1 &&& (2147483647 : Int32)) % (1920 : Int32))) else (if ((x0 &&& (3 : Int32)) + (1 : Int32)) = (3 : Int32) then ((2048 : Int32) + ((x1 &&& (2147483647 : Int32)) % (63488 : Int32))) else ((65536 : Int32) + ((x1 &&& (2147483647 : Int32)) % (1048576 : Int32))))))
def own_m0_86a (x0 : Int32) (x1 : Int32) : Int32 := (if (own_f1 (own_m0_72a x0 x1)) = ((x0 &&& (3 : Int32)) + (1 : Int32)) then (1 : Int32) else (0 : Int32))
def own_f0 (x0 : Int32) (x1 : Int32) : Int32 := ((own_m0_86a x0 x1) &&& 1)
set_option maxRecDepth 65536 in
set_option maxHeartbeats 40000000 in
theorem met0 (l : Launch) (Z : State) (a0 : Array Value) (hw : ∀ d ∈ tables_1, d.before a0 Z = true) (x0 : Int32) (x1 : Int32) (h0 : Heap) :
    own_Met l Z x code maxLocals ret room_1 #[(.int x0), (.int x1)] h0 (own_Pure (.int (own_f0 x0 x1)) h0) := by
  refine own_met pn_0 ?_
  intro p e s m below meth c T0 X0 hx hby hml hown hZ e0 hret hlk hnm
  replace hown : s.vm.findClass "com/example/tablewright/tablewright/io/Utf8LengthPinLaw" = some m.cls := hown
  replace hml : c.maxLocals = 5 := hml
  rw [ef_0 m x0 x1]
  show own_Fin _ _ _ _ _ _ _ (T0.setTop (mkF m 0 #[.val (.int x0), .val (.int x1), .unset, .unset, .unset] []))
  refine own_of (fun _ kk => XS.iloadN X0.here hx rfl (hb hby at_0) rfl kk) ?_
  show own_Fin _ _ _ _ _ _ _ (T0.setTop (mkF m 1 #[.val (.int x0), .val (.int x1), .unset, .unset, .unset] [(.int x0)]))
  refine own_of (fun _ kk => XS.iconst X0.here hx rfl (hb hby at_1) kk) ?_
  show own_Fin _ _ _ _ _ _ _ (T0.setTop (mkF m 2 #[.val (.int x0), .val (.int x1), .unset, .unset, .unset] [(.int (3 : Int32)), (.int x0)]))
  refine own_of (fun _ kk => XS.iand X0.here hx rfl (hb hby at_2) rfl kk) ?_
  show own_Fin _ _ _ _ _ _ _ (T0.setTop (mkF m 3 #[.val (.int x0), .val (.int x1), .unset, .unset, .unset] [(.int (x0 &&& (3 : Int32)))]))
  refine own_of (fun _ kk => XS.iconst X0.here hx rfl (hb hby at_3) kk) ?_
  show own_Fin _ _ _ _ _ _ _ (T0.setTop (mkF m 4 #[.val (.int x0), .val (.int x1), .unset, .unset, .unset] [(.int (1 : Int32)), (.int (x0 &&& (3 : Int32)))]))
  refine own_of (fun _ kk => XS.iadd X0.here hx rfl (hb hby at_4) rfl kk) ?_
  show own_Fin _ _ _ _ _ _ _ (T0.setTop (mkF m 5 #[.val (.int x0), .val (.int x1), .unset, .unset, .unset] [(.int ((x0 &&& (3 : Int32)) + (1 : Int32)))]))
  refine own_of (fun _ kk => XS.istoreN X0.here hx rfl (hb hby at_5) rfl (l' := #[.val (.int x0), .val (.int x1), .val (.int ((x0 &&& (3 : Int32)) + (1 : Int32))), .unset, .unset]) rfl kk) ?_
  show own_Fin _ _ _ _ _ _ _ (T0.setTop (mkF m 6 #[.val (.int x0), .val (.int x1), .val (.int ((x0 &&& (3 : Int32)) + (1 : Int32))), .unset, .unset] []))
  refine own_of (fun _ kk => XS.iloadN X0.here hx rfl (hb hby at_6) rfl kk) ?_
  show own_Fin _ _ _ _ _ _ _ (T0.setTop (mkF m 7 #[.val (.int x0), .val (.int x1), .val (.int ((x0 &&& (3 : Int32)) + (1 : Int32))), .unset, .unset] [(.int x1)]))
  refine own_of (fun _ kk => X0.ldcInt hx hown (mvT hZ (hw _ (List.mem_of_getElem? (i := 0) rfl))) (g := (mkF m 7 #[.val (.int x0), .val (.int x1), .val (.int ((x0 &&& (3 : Int32)) + (1 : Int32))), .unset, .unset] [(.int x1)])) rfl (hb hby at_7) _ kk) ?_
  show own_Fin _ _ _ _ _ _ _ (T0.setTop (mkF m 9 #[.val (.int x0), .val (.int x1), .val (.int ((x0 &&& (3 : Int32)) + (1 : Int32))), .unset, .unset] [(.int (2147483647 : Int32)), (.int x1)]))
  refine own_of (fun _ kk => XS.iand X0.here hx rfl (hb hby at_9) rfl kk) ?_
  show own_Fin _ _ _ _ _ _ _ (T0.setTop (mkF m 10 #[.val (.int x0), .val (.int x1), .val (.int ((x0 &&& (3 : Int32)) + (1 : Int32))), .unset, .unset] [(.int (x1 &&& (2147483647 : Int32)))]))
  refine own_of (fun _ kk => XS.istoreN X0.here hx rfl (hb hby at_10) rfl (l' := #[.val (.int x0), .val (.int x1), .val (.int ((x0 &&& (3 : Int32)) + (1 : Int32))), .val (.int (x1 &&& (2147483647 : Int32))), .unset]) rfl kk) ?_
  show own_Fin _ _ _ _ _ _ _ (T0.setTop (mkF m 11 #[.val (.int x0), .val (.int x1), .val (.int ((x0 &&& (3 : Int32)) + (1 : Int32))), .val (.int (x1 &&& (2147483647 : Int32))), .unset] []))
  refine own_of (fun _ kk => XS.iloadN X0.here hx rfl (hb hby at_11) rfl kk) ?_
  show own_Fin _ _ _ _ _ _ _ (T0.setTop (mkF m 12 #[.val (.int x0), .val (.int x1), .val (.int ((x0 &&& (3 : Int32)) + (1 : Int32))), .val (.int (x1 &&& (2147483647 : Int32))), .unset] [(.int ((x0 &&& (3 : Int32)) + (1 : Int32)))]))
  refine own_of (fun _ kk => XS.iconst X0.here hx rfl (hb hby at_12) kk) ?_
  show own_Fin _ _ _ _ _ _ _ (T0.setTop (mkF m 13 #[.val (.int x0), .val (.int x1), .val (.int ((x0 &&& (3 : Int32)) + (1 : Int32))), .val (.int (x1 &&& (2147483647 : Int32))), .unset] [(.int (1 : Int32)), (.int ((x0 &&& (3 : Int32)) + (1 : Int32)))]))
  suffices k1 : own_Fin _ _ _ _ _ _ _ (T0.setTop (mkF m 72 #[.val (.int x0), .val (.int x1), .val (.int ((x0 &&& (3 : Int32)) + (1 : Int32))), .val (.int (x1 &&& (2147483647 : Int32))), .val (.int (own_m0_72a x0 x1))] [])) by
    by_cases c13 : ((x0 &&& (3 : Int32)) + (1 : Int32)) = (1 : Int32)
    · refine own_of (fun _ kk => XS.icmpNo X0.here hx rfl (hb hby at_13) rfl (teq c13).2 kk) ?_
      show own_Fin _ _ _ _ _ _ _ (T0.setTop (mkF m 16 #[.val (.int x0), .val (.int x1), .val (.int ((x0 &&& (3 : Int32)) + (1 : Int32))), .val (.int (x1 &&& (2147483647 : Int32))), .unset] []))
      refine own_of (fun _ kk => XS.iloadN X0.here hx rfl (hb hby at_16) rfl kk) ?_
      show own_Fin _ _ _ _ _ _ _ (T0.setTop (mkF m 17 #[.val (.int x0), .val (.int x1), .val (.int ((x0 &&& (3 : Int32)) + (1 : Int32))), .val (.int (x1 &&& (2147483647 : Int32))), .unset] [(.int (x1 &&& (2147483647 : Int32)))]))
      refine own_of (fun _ kk => XS.sipush X0.here hx rfl (hb hby at_17) kk) ?_
      show own_Fin _ _ _ _ _ _ _ (T0.setTop (mkF m 20 #[.val (.int x0), .val (.int x1), .val (.int ((x0 &&& (3 : Int32)) + (1 : Int32))), .val (.int (x1 &&& (2147483647 : Int32))), .unset] [(.int (128 : Int32)), (.int (x1 &&& (2147483647 : Int32)))]))
      refine own_of (fun _ kk => iremM X0 hx rfl (hb hby at_20) rfl (by decide) kk) ?_
      show own_Fin _ _ _ _ _ _ _ (T0.setTop (mkF m 21 #[.val (.int x0), .val (.int x1), .val (.int ((x0 &&& (3 : Int32)) + (1 : Int32))), .val (.int (x1 &&& (2147483647 : Int32))), .unset] [(.int ((x1 &&& (2147483647 : Int32)) % (128 : Int32)))]))
      refine own_of (fun _ kk => XS.istore X0.here hx rfl (hb hby at_21) rfl (l' := #[.val (.int x0), .val (.int x1), .val (.int ((x0 &&& (3 : Int32)) + (1 : Int32))), .val (.int (x1 &&& (2147483647 : Int32))), .val (.int ((x1 &&& (2147483647 : Int32)) % (128 : Int32)))]) rfl kk) ?_
      show own_Fin _ _ _ _ _ _ _ (T0.setTop (mkF m 23 #[.val (.int x0), .val (.int x1), .val (.int ((x0 &&& (3 : Int32)) + (1 : Int32))), .val (.int (x1 &&& (2147483647 : Int32))), .val (.int ((x1 &&& (2147483647 : Int32)) % (128 : Int32)))] []))
      refine own_of (fun _ kk => XS.goto X0.here hx rfl (pc0 := 23) (pc' := 72) rfl (hb hby at_23) (by decide) (by decide) kk) ?_
      show own_Fin _ _ _ _ _ _ _ (T0.setTop (mkF m 72 #[.val (.int x0), .val (.int x1), .val (.int ((x0 &&& (3 : Int32)) + (1 : Int32))), .val (.int (x1 &&& (2147483647 : Int32))), .val (.int ((x1 &&& (2147483647 : Int32)) % (128 : Int32)))] []))
      simp only [own_m0_72a, if_pos c13] at k1 ⊢
      exact k1
    · refine own_of (fun _ kk => XS.icmpYes X0.here hx rfl (pc0 := 13) (pc' := 26) rfl (hb hby at_13) rfl (feq c13).2 (by decide) (by decide) kk) ?_
      show own_Fin _ _ _ _ _ _ _ (T0.setTop (mkF m 26 #[.val (.int x0), .val (.int x1), .val (.int ((x0 &&& (3 : Int32)) + (1 : Int32))), .val (.int (x1 &&& (2147483647 : Int32))), .unset] []))
      refine own_of (fun _ kk => XS.iloadN X0.here hx rfl (hb hby at_26) rfl kk) ?_
      show own_Fin _ _ _ _ _ _ _ (T0.setTop (mkF m 27 #[.val (.int x0), .val (.int x1), .val (.int ((x0 &&& (3 : Int32)) + (1 : Int32))), .val (.int (x1 &&& (2147483647 : Int32))), .unset] [(.int ((x0 &&& (3 : Int32)) + (1 : Int32)))]))
      refine own_of (fun _ kk => XS.iconst X0.here hx rfl (hb hby at_27) kk) ?_
      show own_Fin _ _ _ _ _ _ _ (T0.setTop (mkF m 28 #[.val (.int x0), .val (.int x1), .val (.int ((x0 &&& (3 : Int32)) + (1 : Int32))), .val (.int (x1 &&& (2147483647 : Int32))), .unset] [(.int (2 : Int32)), (.int ((x0 &&& (3 : Int32)) + (1 : Int32)))]))
      by_cases c28 : ((x0 &&& (3 : Int32)) + (1 : Int32)) = (2 : Int32)
      · refine own_of (fun _ kk => XS.icmpNo X0.here hx rfl (hb hby at_28) rfl (teq c28).2 kk) ?_
        show own_Fin _ _ _ _ _ _ _ (T0.setTop (mkF m 31 #[.val (.int x0), .val (.int x1), .val (.int ((x0 &&& (3 : Int32)) + (1 : Int32))), .val (.int (x1 &&& (2147483647 : Int32))), .unset] []))
        refine own_of (fun _ kk => XS.sipush X0.here hx rfl (hb hby at_31) kk) ?_
        show own_Fin _ _ _ _ _ _ _ (T0.setTop (mkF m 34 #[.val (.int x0), .val (.int x1), .val (.int ((x0 &&& (3 : Int32)) + (1 : Int32))), .val (.int (x1 &&& (2147483647 : Int32))), .unset] [(.int (128 : Int32))]))
        refine own_of (fun _ kk => XS.iloadN X0.here hx rfl (hb hby at_34) rfl kk) ?_
        show own_Fin _ _ _ _ _ _ _ (T0.setTop (mkF m 35 #[.val (.int x0), .val (.int x1), .val (.int ((x0 &&& (3 : Int32)) + (1 : Int32))), .val (.int (x1 &&& (2147483647 : Int32))), .unset] [(.int (x1 &&& (2147483647 : Int32))), (.int (128 : Int32))]))
        refine own_of (fun _ kk => XS.sipush X0.here hx rfl (hb hby at_35) kk) ?_
        show own_Fin _ _ _ _ _ _ _ (T0.setTop (mkF m 38 #[.val (.int x0), .val (.int x1), .val (.int ((x0 &&& (3 : Int32)) + (1 : Int32))), .val (.int (x1 &&& (2147483647 : Int32))), .unset] [(.int (1920 : Int32)), (.int (x1 &&& (2147483647 : Int32))), (.int (128 : Int32))]))
        refine own_of (fun _ kk => iremM X0 hx rfl (hb hby at_38) rfl (by decide) kk) ?_
        show own_Fin _ _ _ _ _ _ _ (T0.setTop (mkF m 39 #[.val (.int x0), .val (.int x1), .val (.int ((x0 &&& (3 : Int32)) + (1 : Int32))), .val (.int (x1 &&& (2147483647 : Int32))), .unset] [(.int ((x1 &&& (2147483647 : Int32)) % (1920 : Int32))), (.int (128 : Int32))]))
        refine own_of (fun _ kk => XS.iadd X0.here hx rfl (hb hby at_39) rfl kk) ?_
        show own_Fin _ _ _ _ _ _ _ (T0.setTop (mkF m 40 #[.val (.int x0), .val (.int x1), .val (.int ((x0 &&& (3 : Int32)) + (1 : Int32))), .val (.int (x1 &&& (2147483647 : Int32))), .unset] [(.int ((128 : Int32) + ((x1 &&& (2147483647 : Int32)) % (1920 : Int32))))]))
        refine own_of (fun _ kk => XS.istore X0.here hx rfl (hb hby at_40) rfl (l' := #[.val (.int x0), .val (.int x1), .val (.int ((x0 &&& (3 : Int32)) + (1 : Int32))), .val (.int (x1 &&& (2147483647 : Int32))), .val (.int ((128 : Int32) + ((x1 &&& (2147483647 : Int32)) % (1920 : Int32))))]) rfl kk) ?_
        show own_Fin _ _ _ _ _ _ _ (T0.setTop (mkF m 42 #[.val (.int x0), .val (.int x1), .val (.int ((x0 &&& (3 : Int32)) + (1 : Int32))), .val (.int (x1 &&& (2147483647 : Int32))), .val (.int ((128 : Int32) + ((x1 &&& (2147483647 : Int32)) % (1920 : Int32))))] []))
        refine own_of (fun _ kk => XS.goto X0.here hx rfl (pc0 := 42) (pc' := 72) rfl (hb hby at_42) (by decide) (by decide) kk) ?_
        show own_Fin _ _ _ _ _ _ _ (T0.setTop (mkF m 72 #[.val (.int x0), .val (.int x1), .val (.int ((x0 &&& (3 : Int32)) + (1 : Int32))), .val (.int (x1 &&& (2147483647 : Int32))), .val (.int ((128 : Int32) + ((x1 &&& (2147483647 : Int32)) % (1920 : Int32))))] []))
        simp only [own_m0_72a, if_neg c13, if_pos c28] at k1 ⊢
        exact k1
      · refine own_of (fun _ kk => XS.icmpYes X0.here hx rfl (pc0 := 28) (pc' := 45) rfl (hb hby at_28) rfl (feq c28).2 (by decide) (by decide) kk) ?_
        show own_Fin _ _ _ _ _ _ _ (T0.setTop (mkF m 45 #[.val (.int x0), .val (.int x1), .val (.int ((x0 &&& (3 : Int32)) + (1 : Int32))), .val (.int (x1 &&& (2147483647 : Int32))), .unset] []))
        refine own_of (fun _ kk => XS.iloadN X0.here hx rfl (hb hby at_45) rfl kk) ?_
        show own_Fin _ _ _ _ _ _ _ (T0.setTop (mkF m 46 #[.val (.int x0), .val (.int x1), .val (.int ((x0 &&& (3 : Int32)) + (1 : Int32))), .val (.int (x1 &&& (2147483647 : Int32))), .unset] [(.int ((x0 &&& (3 : Int32)) + (1 : Int32)))]))
        refine own_of (fun _ kk => XS.iconst X0.here hx rfl (hb hby at_46) kk) ?_
        show own_Fin _ _ _ _ _ _ _ (T0.setTop (mkF m 47 #[.val (.int x0), .val (.int x1), .val (.int ((x0 &&& (3 : Int32)) + (1 : Int32))), .val (.int (x1 &&& (2147483647 : Int32))), .unset] [(.int (3 : Int32)), (.int ((x0 &&& (3 : Int32)) + (1 : Int32)))]))
        by_cases c47 : ((x0 &&& (3 : Int32)) + (1 : Int32)) = (3 : Int32)
        · refine own_of (fun _ kk => XS.icmpNo X0.here hx rfl (hb hby at_47) rfl (teq c47).2 kk) ?_
          show own_Fin _ _ _ _ _ _ _ (T0.setTop (mkF m 50 #[.val (.int x0), .val (.int x1), .val (.int ((x0 &&& (3 : Int32)) + (1 : Int32))), .val (.int (x1 &&& (2147483647 : Int32))), .unset] []))
          refine own_of (fun _ kk => XS.sipush X0.here hx rfl (hb hby at_50) kk) ?_
          show own_Fin _ _ _ _ _ _ _ (T0.setTop (mkF m 53 #[.val (.int x0), .val (.int x1), .val (.int ((x0 &&& (3 : Int32)) + (1 : Int32))), .val (.int (x1 &&& (2147483647 : Int32))), .unset] [(.int (2048 : Int32))]))
          refine own_of (fun _ kk => XS.iloadN X0.here hx rfl (hb hby at_53) rfl kk) ?_
          show own_Fin _ _ _ _ _ _ _ (T0.setTop (mkF m 54 #[.val (.int x0), .val (.int x1), .val (.int ((x0 &&& (3 : Int32)) + (1 : Int32))), .val (.int (x1 &&& (2147483647 : Int32))), .unset] [(.int (x1 &&& (2147483647 : Int32))), (.int (2048 : Int32))]))
          refine own_of (fun _ kk => X0.ldcInt hx hown (mvT hZ (hw _ (List.mem_of_getElem? (i := 5) rfl))) (g := (mkF m 54 #[.val (.int x0), .val (.int x1), .val (.int ((x0 &&& (3 : Int32)) + (1 : Int32))), .val (.int (x1 &&& (2147483647 : Int32))), .unset] [(.int (x1 &&& (2147483647 : Int32))), (.int (2048 : Int32))])) rfl (hb hby at_54) _ kk) ?_
          show own_Fin _ _ _ _ _ _ _ (T0.setTop (mkF m 56 #[.val (.int x0), .val (.int x1), .val (.int ((x0 &&& (3 : Int32)) + (1 : Int32))), .val (.int (x1 &&& (2147483647 : Int32))), .unset] [(.int (63488 : Int32)), (.int (x1 &&& (2147483647 : Int32))), (.int (2048 : Int32))]))
          refine own_of (fun _ kk => iremM X0 hx rfl (hb hby at_56) rfl (by decide) kk) ?_
          show own_Fin _ _ _ _ _ _ _ (T0.setTop (mkF m 57 #[.val (.int x0), .val (.int x1), .val (.int ((x0 &&& (3 : Int32)) + (1 : Int32))), .val (.int (x1 &&& (2147483647 : Int32))), .unset] [(.int ((x1 &&& (2147483647 : Int32)) % (63488 : Int32))), (.int (2048 : Int32))]))
          refine own_of (fun _ kk => XS.iadd X0.here hx rfl (hb hby at_57) rfl kk) ?_
          show own_Fin _ _ _ _ _ _ _ (T0.setTop (mkF m 58 #[.val (.int x0), .val (.int x1), .val (.int ((x0 &&& (3 : Int32)) + (1 : Int32))), .val (.int (x1 &&& (2147483647 : Int32))), .unset] [(.int ((2048 : Int32) + ((x1 &&& (2147483647 : Int32)) % (63488 : Int32))))]))
          refine own_of (fun _ kk => XS.istore X0.here hx rfl (hb hby at_58) rfl (l' := #[.val (.int x0), .val (.int x1), .val (.int ((x0 &&& (3 : Int32)) + (1 : Int32))), .val (.int (x1 &&& (2147483647 : Int32))), .val (.int ((2048 : Int32) + ((x1 &&& (2147483647 : Int32)) % (63488 : Int32))))]) rfl kk) ?_
          show own_Fin _ _ _ _ _ _ _ (T0.setTop (mkF m 60 #[.val (.int x0), .val (.int x1), .val (.int ((x0 &&& (3 : Int32)) + (1 : Int32))), .val (.int (x1 &&& (2147483647 : Int32))), .val (.int ((2048 : Int32) + ((x1 &&& (2147483647 : Int32)) % (63488 : Int32))))] []))
          refine own_of (fun _ kk => XS.goto X0.here hx rfl (pc0 := 60) (pc' := 72) rfl (hb hby at_60) (by decide) (by decide) kk) ?_
          show own_Fin _ _ _ _ _ _ _ (T0.setTop (mkF m 72 #[.val (.int x0), .val (.int x1), .val (.int ((x0 &&& (3 : Int32)) + (1 : Int32))), .val (.int (x1 &&& (2147483647 : Int32))), .val (.int ((2048 : Int32) + ((x1 &&& (2147483647 : Int32)) % (63488 : Int32))))] []))
          simp only [own_m0_72a, if_neg c13, if_neg c28, if_pos c47] at k1 ⊢
          exact k1
        · refine own_of (fun _ kk => XS.icmpYes X0.here hx rfl (pc0 := 47) (pc' := 63) rfl (hb hby at_47) rfl (feq c47).2 (by decide) (by decide) kk) ?_
          show own_Fin _ _ _ _ _ _ _ (T0.setTop (mkF m 63 #[.val (.int x0), .val (.int x1), .val (.int ((x0 &&& (3 : Int32)) + (1 : Int32))), .val (.int (x1 &&& (2147483647 : Int32))), .unset] []))
          refine own_of (fun _ kk => X0.ldcInt hx hown (mvT hZ (hw _ (List.mem_of_getElem? (i := 7) rfl))) (g := (mkF m 63 #[.val (.int x0), .val (.int x1), .val (.int ((x0 &&& (3 : Int32)) + (1 : Int32))), .val (.int (x1 &&& (2147483647 : Int32))), .unset] [])) rfl (hb hby at_63) _ kk) ?_
          show own_Fin _ _ _ _ _ _ _ (T0.setTop (mkF m 65 #[.val (.int x0), .val (.int x1), .val (.int ((x0 &&& (3 : Int32)) + (1 : Int32))), .val (.int (x1 &&& (2147483647 : Int32))), .unset] [(.int (65536 : Int32))]))
          refine own_of (fun _ kk => XS.iloadN X0.here hx rfl (hb hby at_65) rfl kk) ?_
          show own_Fin _ _ _ _ _ _ _ (T0.setTop (mkF m 66 #[.val (.int x0), .val (.int x1), .val (.int ((x0 &&& (3 : Int32)) + (1 : Int32))), .val (.int (x1 &&& (2147483647 : Int32))), .unset] [(.int (x1 &&& (2147483647 : Int32))), (.int (65536 : Int32))]))
          refine own_of (fun _ kk => X0.ldcInt hx hown (mvT hZ (hw _ (List.mem_of_getElem? (i := 8) rfl))) (g := (mkF m 66 #[.val (.int x0), .val (.int x1), .val (.int ((x0 &&& (3 : Int32)) + (1 : Int32))), .val (.int (x1 &&& (2147483647 : Int32))), .unset] [(.int (x1 &&& (2147483647 : Int32))), (.int (65536 : Int32))])) rfl (hb hby at_66) _ kk) ?_
          show own_Fin _ _ _ _ _ _ _ (T0.setTop (mkF m 68 #[.val (.int x0), .val (.int x1), .val (.int ((x0 &&& (3 : Int32)) + (1 : Int32))), .val (.int (x1 &&& (2147483647 : Int32))), .unset] [(.int (1048576 : Int32)), (.int (x1 &&& (2147483647 : Int32))), (.int (65536 : Int32))]))
          refine own_of (fun _ kk => iremM X0 hx rfl (hb hby at_68) rfl (by decide) kk) ?_
          show own_Fin _ _ _ _ _ _ _ (T0.setTop (mkF m 69 #[.val (.int x0), .val (.int x1), .val (.int ((x0 &&& (3 : Int32)) + (1 : Int32))), .val (.int (x1 &&& (2147483647 : Int32))), .unset] [(.int ((x1 &&& (2147483647 : Int32)) % (1048576 : Int32))), (.int (65536 : Int32))]))
          refine own_of (fun _ kk => XS.iadd X0.here hx rfl (hb hby at_69) rfl kk) ?_
          show own_Fin _ _ _ _ _ _ _ (T0.setTop (mkF m 70 #[.val (.int x0), .val (.int x1), .val (.int ((x0 &&& (3 : Int32)) + (1 : Int32))), .val (.int (x1 &&& (2147483647 : Int32))), .unset] [(.int ((65536 : Int32) + ((x1 &&& (2147483647 : Int32)) % (1048576 : Int32))))]))
          refine own_of (fun _ kk => XS.istore X0.here hx rfl (hb hby at_70) rfl (l' := #[.val (.int x0), .val (.int x1), .val (.int ((x0 &&& (3 : Int32)) + (1 : Int32))), .val (.int (x1 &&& (2147483647 : Int32))), .val (.int ((65536 : Int32) + ((x1 &&& (2147483647 : Int32)) % (1048576 : Int32))))]) rfl kk) ?_
          show own_Fin _ _ _ _ _ _ _ (T0.setTop (mkF m 72 #[.val (.int x0), .val (.int x1), .val (.int ((x0 &&& (3 : Int32)) + (1 : Int32))), .val (.int (x1 &&& (2147483647 : Int32))), .val (.int ((65536 : Int32) + ((x1 &&& (2147483647 : Int32)) % (1048576 : Int32))))] []))
          simp only [own_m0_72a, if_neg c13, if_neg c28, if_neg c47] at k1 ⊢
          exact k1
  show own_Fin _ _ _ _ _ _ _ (T0.setTop (mkF m 72 #[.val (.int x0), .val (.int x1), .val (.int ((x0 &&& (3 : Int32)) + (1 : Int32))), .val (.int (x1 &&& (2147483647 : Int32))), .val (.int (own_m0_72a x0 x1))] []))
  refine own_of (fun _ kk => XS.iload X0.here hx rfl (hb hby at_72) rfl kk) ?_
  show own_Fin _ _ _ _ _ _ _ (T0.setTop (mkF m 74 #[.val (.int x0), .val (.int x1), .val (.int ((x0 &&& (3 : Int32)) + (1 : Int32))), .val (.int (x1 &&& (2147483647 : Int32))), .val (.int (own_m0_72a x0 x1))] [(.int (own_m0_72a x0 x1))]))
  refine own_callP X0 hx hZ hown (hw _ (List.mem_of_getElem? (i := 1) rfl)) (hw _ (List.mem_of_getElem? (i := 2) rfl)) (hw _ (List.mem_of_getElem? (i := 3) rfl)) (hw _ (List.mem_of_getElem? (i := 4) rfl)) (by decide) e0 (argsL := [(.int (own_m0_72a x0 x1))]) (rv := (.int (own_f1 (own_m0_72a x0 x1)))) (met1 l Z a0 hw (own_m0_72a x0 x1) h0) (W := 0) (by decide) (by decide) (by decide) (by decide) (by rw [hml]; rfl) pd_0 rfl (rest := []) rfl (Nat.le_of_eq rfl) (hb hby at_74) ?_
  intro T2 X2 e2
  show own_Fin _ _ _ _ _ _ _ (T2.setTop (mkF m 77 #[.val (.int x0), .val (.int x1), .val (.int ((x0 &&& (3 : Int32)) + (1 : Int32))), .val (.int (x1 &&& (2147483647 : Int32))), .val (.int (own_m0_72a x0 x1))] [(.int (own_f1 (own_m0_72a x0 x1)))]))
  refine own_of (fun _ kk => XS.iloadN X2.here hx rfl (hb hby at_77) rfl kk) ?_
  show own_Fin _ _ _ _ _ _ _ (T2.setTop (mkF m 78 #[.val (.int x0), .val (.int x1), .val (.int ((x0 &&& (3 : Int32)) + (1 : Int32))), .val (.int (x1 &&& (2147483647 : Int32))), .val (.int (own_m0_72a x0 x1))] [(.int ((x0 &&& (3 : Int32)) + (1 : Int32))), (.int (own_f1 (own_m0_72a x0 x1)))]))
  suffices k3 : own_Fin _ _ _ _ _ _ _ (T2.setTop (mkF m 86 #[.val (.int x0), .val (.int x1), .val (.int ((x0 &&& (3 : Int32)) + (1 : Int32))), .val (.int (x1 &&& (2147483647 : Int32))), .val (.int (own_m0_72a x0 x1))] [(.int (own_m0_86a x0 x1))])) by
    by_cases c78 : (own_f1 (own_m0_72a x0 x1)) = ((x0 &&& (3 : Int32)) + (1 : Int32))
    · refine own_of (fun _ kk => XS.icmpNo X2.here hx rfl (hb hby at_78) rfl (teq c78).2 kk) ?_
      show own_Fin _ _ _ _ _ _ _ (T2.setTop (mkF m 81 #[.val (.int x0), .val (.int x1), .val (.int ((x0 &&& (3 : Int32)) + (1 : Int32))), .val (.int (x1 &&& (2147483647 : Int32))), .val (.int (own_m0_72a x0 x1))] []))
      refine own_of (fun _ kk => XS.iconst X2.here hx rfl (hb hby at_81) kk) ?_
      show own_Fin _ _ _ _ _ _ _ (T2.setTop (mkF m 82 #[.val (.int x0), .val (.int x1), .val (.int ((x0 &&& (3 : Int32)) + (1 : Int32))), .val (.int (x1 &&& (2147483647 : Int32))), .val (.int (own_m0_72a x0 x1))] [(.int (1 : Int32))]))
      refine own_of (fun _ kk => XS.goto X2.here hx rfl (pc0 := 82) (pc' := 86) rfl (hb hby at_82) (by decide) (by decide) kk) ?_
      show own_Fin _ _ _ _ _ _ _ (T2.setTop (mkF m 86 #[.val (.int x0), .val (.int x1), .val (.int ((x0 &&& (3 : Int32)) + (1 : Int32))), .val (.int (x1 &&& (2147483647 : Int32))), .val (.int (own_m0_72a x0 x1))] [(.int (1 : Int32))]))
      simp only [own_m0_86a, if_pos c78] at k3 ⊢
      exact k3
    · refine own_of (fun _ kk => XS.icmpYes X2.here hx rfl (pc0 := 78) (pc' := 85) rfl (hb hby at_78) rfl (feq c78).2 (by decide) (by decide) kk) ?_
      show own_Fin _ _ _ _ _ _ _ (T2.setTop (mkF m 85 #[.val (.int x0), .val (.int x1), .val (.int ((x0 &&& (3 : Int32)) + (1 : Int32))), .val (.int (x1 &&& (2147483647 : Int32))), .val (.int (own_m0_72a x0 x1))] []))
      refine own_of (fun _ kk => XS.iconst X2.here hx rfl (hb hby at_85) kk) ?_
      show own_Fin _ _ _ _ _ _ _ (T2.setTop (mkF m 86 #[.val (.int x0), .val (.int x1), .val (.int ((x0 &&& (3 : Int32)) + (1 : Int32))), .val (.int (x1 &&& (2147483647 : Int32))), .val (.int (own_m0_72a x0 x1))] [(.int (0 : Int32))]))
      simp only [own_m0_86a, if_neg c78] at k3 ⊢
      exact k3
  show own_Fin _ _ _ _ _ _ _ (T2.setTop (mkF m 86 #[.val (.int x0), .val (.int x1), .val (.int ((x0 &&& (3 : Int32)) + (1 : Int32))), .val (.int (x1 &&& (2147483647 : Int32))), .val (.int (own_m0_72a x0 x1))] [(.int (own_m0_86a x0 x1))]))
  exact own_retN X2 hx hlk e2 (t := .boolean) hret (by simp) (hb hby at_86) (by decide) (by decide) (z' := ((own_m0_86a x0 x1) &&& 1)) rfl ⟨by first | rfl | (simp only [own_f0]; done), rfl, rfl⟩
theorem own_len (c : Int32) : (c.toInt < 128 → own_f1 c = 1) ∧ (128 ≤ c.toInt → c.toInt < 2048 → own_f1 c = 2) ∧ (2048 ≤ c.toInt → c.toInt < 65536 → own_f1 c = 3) ∧ (65536 ≤ c.toInt → own_f1 c = 4) := by
  have k1 : (128 : Int32).toInt = 128 := by decide
  have k2 : (2048 : Int32).toInt = 2048 := by decide
  have k3 : (65536 : Int32).toInt = 65536 := by decide
  simp only [own_f1, own_m1_37a, Int32.lt_iff_toInt_lt, k1, k2, k3]
  refine ⟨fun h => ?_, fun h g => ?_, fun h g => ?_, fun h => ?_⟩
  · rw [if_pos h]
  · rw [if_neg (by omega), if_pos g]
  · rw [if_neg (by omega), if_neg (by omega), if_pos g]
  · rw [if_neg (by omega), if_neg (by omega), if_neg (by omega)]
theorem own_one (x0 x1 : Int32) : own_f0 x0 x1 = 1 := by
  have q1 := c_mask x0 3 2 (by decide) (by decide)
  have q2 := c_mask x1 2147483647 31 (by decide) (by decide)
  have hr : 0 ≤ (x1 &&& 2147483647).toInt := by rw [q2]; omega
  obtain ⟨n, hlt, hn⟩ := own_fin (x0 &&& 3) 4 (by rw [q1]; omega) (by rw [q1]; omega)
  refine own_true (P := own_f1 (own_m0_72a x0 x1) = (x0 &&& 3) + 1) ?_
  unfold own_m0_72a
  rw [hn]
  generalize (x1 &&& (2147483647 : Int32)) = r at *
  have d1 := (c_irem r 128 128 (by decide)).1 hr
  have d2 := (c_irem r 1920 1920 (by decide)).1 hr
  have d3 := (c_irem r 63488 63488 (by decide)).1 hr
  have d4 := (c_irem r 1048576 1048576 (by decide)).1 hr
  have b2 := c_iadd 128 (r % 1920)
  have b3 := c_iadd 2048 (r % 63488)
  have b4 := c_iadd 65536 (r % 1048576)
  have r2 := rng32 (128 + r % 1920)
  have r3 := rng32 (2048 + r % 63488)
  have r4 := rng32 (65536 + r % 1048576)
  have k1 : (128 : Int32).toInt = 128 := by decide
  have k2 : (2048 : Int32).toInt = 2048 := by decide
  have k3 : (65536 : Int32).toInt = 65536 := by decide
  obtain rfl | rfl | rfl | rfl : n = 0 ∨ n = 1 ∨ n = 2 ∨ n = 3 := by omega
  · rw [if_pos (by decide)]; exact (own_len _).1 (by omega)
  · rw [if_neg (by decide), if_pos (by decide)]; exact (own_len _).2.1 (by omega) (by omega)
  · rw [if_neg (by decide), if_neg (by decide), if_pos (by decide)]; exact (own_len _).2.2.1 (by omega) (by omega)
  · rw [if_neg (by decide), if_neg (by decide), if_neg (by decide)]; exact (own_len _).2.2.2 (by omega)
theorem own_law (l : Launch) (Z : State) (a0 : Array Value) (hw : ∀ d ∈ tables_1, d.before a0 Z = true) (x0 : Int32) (x1 : Int32) (h0 : Heap) (n0 : Nat) (Z0 : n0 ≤ h0.size) :
    own_Met l Z x code maxLocals ret room_1 #[(.int x0), (.int x1)] h0 (fun v h L => v = some (.int 1) ∧ Fr n0 L) := by
  intro ws p e ha hc hk s m args below hf happ hP hK
  obtain ⟨n, o, h1, h2, h3, v, L, h4, ⟨h5, h6, h7⟩, h8⟩ := met0 l Z a0 hw x0 x1 h0 ws p e ha hc hk s m args below hf happ hP hK
  exact ⟨n, o, h1, h2, h3, v, L, h4, ⟨by rw [h5, own_one], by rw [h7]; exact Fr.nil n0⟩, h8⟩
set_option maxRecDepth 65536 in
set_option maxHeartbeats 40000000 in
theorem comes_1 {Post : Tables → Env → Array Value → State → Outcome → State → Prop} (hpost : ∀ tb e args s v u, (limb_1_1.after args s (.returned v) u = true ∧ limb_1_2.after args s (.returned v) u = true ∧ True) → FrameEnd s (.returned v) u (Jvm.fieldLocs frame_1_writes args s ++ Jvm.arrayLocs frame_1_arrays args s ++ Jvm.staticLocs frame_1_statics s) 0 0 → Post tb e args s (.returned v) u) :
    ArmFor flags0 classFile x code maxLocals ret World_1 tables_1 room_1 Calls_1 rest_1 Pre_1 Post := by
  intro l hfl _ _ p e ha hc hk s m args below hf hA hF happ hP
  obtain ⟨hcalls, hrest, hpre⟩ := hP
  obtain ⟨-, -, -, hnamed, -, -, -, hat⟩ := (Spec.applies_iff hf).mp happ
  obtain ⟨hg, hn⟩ := and_e (Cond.before_iff.mp (show (Jvm.Cond.and given_1 narrow_1).before args s = true from hpre))
  obtain ⟨g1, g2⟩ := and_e hg
  obtain ⟨g3, g4⟩ := and_e g2
  obtain ⟨w0, w1, rfl⟩ : ∃ w0 w1 : Value, args = #[w0, w1] := by
    have hs : args.size = 2 := by simpa [Cond.value, given_1] using g1
    obtain ⟨L⟩ := args
    match L, hs with
    | [w0, w1], _ => exact ⟨w0, w1, rfl⟩
  have hw := fun d (hd : d ∈ tables_1) => atoms_spec (ws := Jvm.Cond.code x code maxLocals ret :: tables_1) hat d (List.mem_cons_of_mem _ hd)
  obtain ⟨i0, ei0⟩ := is_v g3
  obtain rfl : w0 = (.int i0) := Option.some.inj ei0
  obtain ⟨i1, ei1⟩ := is_v g4
  obtain rfl : w1 = (.int i1) := Option.some.inj ei1
  obtain ⟨n, o, h1, h2, h3, _, L, rfl, ⟨rfl, N⟩, hq⟩ := own_law l s _ hw i0 i1 s.heap s.heap.size (Nat.le_refl _) tables_1 p e ha hc hk s m _ below hf ((Spec.applies_iff_loose hf).mp happ).1 ⟨rfl, State.Warmed39.refl s, rfl⟩ trivial
  refine ⟨n, _, h1, h2, h3, hpost _ _ _ _ _ _ ⟨Cond.after_iff.mpr rfl, Cond.after_iff.mpr (eq_i res_at (Term.int_eval (1)) rfl), trivial⟩ ⟨hq.1, hq.2.1, (hq.2.2.sift fun y hy => Or.inr (N y hy)).mono (by decide) (by decide)⟩⟩
theorem main_1_1 : Claimed_1_1 := comes_1 fun _ _ _ _ _ _ h hF => ⟨h.1, hF⟩
theorem main_1_2 : Claimed_1_2 := comes_1 fun _ _ _ _ _ _ h hF => ⟨h.2.1, hF⟩
end Jvm.Pilot.@@N@@
namespace Jvm.Pilot.@@N@@
open Jvm Jvm.ClassFile Sem Op Lib Jvm.Free Jvm.Stand Jvm.Pilot.@@N@@.Jvm.D
/-! MADE BY PROGRAM (witnessworld.py) out of the Statement's table words and the real class files: 9 classes; the members and pool entries that the words name. The judged class is class 1, her method 1. -/
namespace start1
open Jvm.ClassFile
def u (s : String) : CpInfo := .utf8 (stringToUtf16 s)
/-- a pool by its gaps: so many unusable entries, then the entry; so many at the end -/
def gap : Nat → List CpInfo → List CpInfo
  | 0, r => r
  | n + 1, r => .unusable :: gap n r
def poolList (es : List (Nat × CpInfo)) (last : Nat) : List CpInfo := es.foldr (fun e r => gap e.1 (e.2 :: r)) (gap last [])
def pool (es : List (Nat × CpInfo)) (last : Nat) : Array CpInfo := ⟨poolList es last⟩
def fileOf (pool : Array CpInfo) (this : Nat) (attrs : Array Attribute := #[]) (ms : Array MethodInfo := #[]) (fl : Nat := 33) (sup : Nat := 0) (ifs : Array Nat := #[]) (fds : Array FieldInfo := #[]) : ClassFile where
  minorVersion := 0
  majorVersion := 65
  constantPool := pool
  accessFlags := fl
  thisClass := this
  superClass := sup
  interfaces := ifs
  fields := fds
  methods := ms
  attributes := attrs
def plain (name : String) (sup : Option ClassId) : Class where
  name := name
  kind := .ordinary
  loader := none
  accessFlags := 33
  super := sup
  interfaces := #[]
  cf := none
  fields := #[]
  methods := #[]
  instanceTypes := #[]
  staticTypes := #[]
  resolved := #[]
  callSites := []
  init := .initialized
  statics := none
  mirror := none

def pool0 : Array CpInfo := pool [(5, u "<init>"), (0, u "()V"), (1, .class_ 10), (1, u "java/lang/Object")] 113

def k0m0 : Method := { name := "<init>", desc := "()V", sig := { parameters := [], returnType := none }, accessFlags := 1, code := none }
/-- java/lang/Object -/
def k0 : Class := { plain "java/lang/Object" none with
  accessFlags := 33
  interfaces := #[]
  cf := some (fileOf pool0 8 #[] #[{ accessFlags := 1, nameIndex := 5, descriptorIndex := 6, attributes := #[] }] 33 0 #[] #[])
  fields := #[]
  methods := #[k0m0]
  instanceTypes := #[]
  staticTypes := #[]
  resolved := Array.replicate 124 none
  statics := none }

def pool1 : Array CpInfo := pool [(2, .class_ 4), (1, u "java/lang/Object"), (0, u "<init>"), (0, u "()V"), (0, .integer 2147483647), (0, .integer 63488), (0, .integer 65536), (0, .integer 1048576), (0, .methodref 12 13), (0, .class_ 14), (0, .nameAndType 15 16), (0, u "com/example/tablewright/tablewright/io/Utf8"), (0, u "length"), (0, u "(I)I"), (0, .class_ 18), (0, u "com/example/tablewright/tablewright/io/Utf8LengthPinLaw"), (2, u "law"), (0, u "(II)Z")] 3

def k1m0 : Method := { name := "<init>", desc := "()V", sig := { parameters := [], returnType := none }, accessFlags := 2, code := none }
def k1c1 : Code := { maxStack := 3, maxLocals := 5, code := code, exceptionTable := #[], attributes := #[] }
def k1m1 : Method := { name := "law", desc := "(II)Z", sig := { parameters := [.int, .int], returnType := some .boolean }, accessFlags := 9, code := some k1c1 }
/-- com/example/tablewright/tablewright/io/Utf8LengthPinLaw -/
def k1 : Class := { plain "com/example/tablewright/tablewright/io/Utf8LengthPinLaw" (some 0) with
  accessFlags := 49
  interfaces := #[]
  cf := some (fileOf pool1 17 #[] #[{ accessFlags := 2, nameIndex := 5, descriptorIndex := 6, attributes := #[] }, { accessFlags := 9, nameIndex := 21, descriptorIndex := 22, attributes := #[] }] 49 2 #[] #[])
  fields := #[]
  methods := #[k1m0, k1m1]
  instanceTypes := #[]
  staticTypes := #[]
  resolved := Array.replicate 26 none
  statics := none }

def pool2 : Array CpInfo := pool [(2, .class_ 4), (1, u "java/lang/Object"), (0, u "<init>"), (0, u "()V"), (0, .integer 65536), (1, .class_ 11), (1, u "com/example/tablewright/tablewright/io/Utf8"), (6, u "MALFORMED"), (0, u "I"), (4, u "length"), (0, u "(I)I")] 7

def k2m0 : Method := { name := "<init>", desc := "()V", sig := { parameters := [], returnType := none }, accessFlags := 2, code := none }
def k2c1 : Code := { maxStack := 2, maxLocals := 2, code := prog_74_method_2_code, exceptionTable := #[], attributes := #[] }
def k2m1 : Method := { name := "length", desc := "(I)I", sig := { parameters := [.int], returnType := some .int }, accessFlags := 8, code := some k2c1 }
/-- com/example/tablewright/tablewright/io/Utf8 -/
def k2 : Class := { plain "com/example/tablewright/tablewright/io/Utf8" (some 0) with
  accessFlags := 48
  interfaces := #[]
  cf := some (fileOf pool2 9 #[] #[{ accessFlags := 2, nameIndex := 5, descriptorIndex := 6, attributes := #[] }, { accessFlags := 8, nameIndex := 24, descriptorIndex := 25, attributes := #[] }] 48 2 #[] #[{ accessFlags := 24, nameIndex := 18, descriptorIndex := 19, attributes := #[] }])
  fields := #[{ name := "MALFORMED", type := .int, accessFlags := 24, slot := 0, constantValue := 0 }]
  methods := #[k2m0, k2m1]
  instanceTypes := #[]
  staticTypes := #[.int]
  resolved := Array.replicate 33 none
  statics := none }

def pool3 : Array CpInfo := pool [(1, u "java/lang/Cloneable"), (0, .class_ 1), (0, u "java/lang/Object"), (0, .class_ 3)] 3

/-- java/lang/Cloneable -/
def k3 : Class := { plain "java/lang/Cloneable" (some 0) with
  accessFlags := 1537
  interfaces := #[]
  cf := some (fileOf pool3 2 #[] #[] 1537 4 #[] #[])
  fields := #[]
  methods := #[]
  instanceTypes := #[]
  staticTypes := #[]
  resolved := Array.replicate 8 none
  statics := none }

def pool4 : Array CpInfo := pool [(1, u "java/io/Serializable"), (0, .class_ 1), (0, u "java/lang/Object"), (0, .class_ 3)] 3

/-- java/io/Serializable -/
def k4 : Class := { plain "java/io/Serializable" (some 0) with
  accessFlags := 1537
  interfaces := #[]
  cf := some (fileOf pool4 2 #[] #[] 1537 4 #[] #[])
  fields := #[]
  methods := #[]
  instanceTypes := #[]
  staticTypes := #[]
  resolved := Array.replicate 8 none
  statics := none }

/-- the primitive byte -/
def k5 : Class := { plain "byte" none with kind := .primitive 'B', accessFlags := 0x411 }
/-- [B -/
def k6 : Class := { plain "[B" (some 0) with kind := .array 5 .byte, interfaces := #[3, 4], accessFlags := 1041 }

/-- the primitive int -/
def k7 : Class := { plain "int" none with kind := .primitive 'I', accessFlags := 0x411 }
/-- [I -/
def k8 : Class := { plain "[I" (some 0) with kind := .array 7 .int, interfaces := #[3, 4], accessFlags := 1041 }

def heap : Heap := #[]
def classes : Array Class := #[k0, k1, k2, k3, k4, k5, k6, k7, k8]
def interned : List (Array UInt16 × Addr) := []
def slotsUsed : Nat := 0
def theMethod : MethodId := ⟨1, 1⟩
def args0 : Array Value := #[.int 5, .int 7]
def aboutOver (below : List Frame) : State where
  vm := { classes := classes, interned := interned.toArray }
  heap := heap
  slotsUsed := slotsUsed
  threads := #[{ frames := .invoking theMethod args0 :: below }]
def below0 : List Frame := [.native { method := ⟨0, 0⟩, args := #[] }]
def about1 : State := aboutOver below0
def p0 : Program := .bare "" "" ""
def e0 : Env := launch0.env 0 0 0
theorem w_frames : about1.frames = Frame.invoking theMethod args0 :: below0 := rfl
set_option maxRecDepth 65536 in
theorem w_args : argsFit about1.vm theMethod args0 = true := by decide +kernel
set_option maxRecDepth 65536 in
theorem w_heap : heapFits about1 = true := by decide +kernel
set_option maxRecDepth 65536 in
theorem w_runnable : about1.curStatus? = some .runnable := by decide +kernel
set_option maxRecDepth 65536 in
theorem w_alone : about1.alone = true := by decide +kernel
set_option maxRecDepth 65536 in
theorem w_named : about1.methodNamed? x = some theMethod := by decide +kernel
set_option maxRecDepth 65536 in
theorem w_hears : about1.hears theMethod below0 = true := by decide +kernel
set_option maxRecDepth 65536 in
theorem w_ripe : about1.ripe theMethod args0 below0 = true := by decide +kernel
theorem w_running : about1.status = .running := rfl
set_option maxRecDepth 65536 in
theorem w_room : about1.hasRoom e0.platform room_1 = true :=
  launch0.hasRoom_least _ room_1 (by decide +kernel) (by decide +kernel) (by decide +kernel) (by decide +kernel) (by decide +kernel) (by decide +kernel)
theorem allAtoms_all (ts : List Jvm.Cond) (a : Array Jvm.Value) (st : Jvm.State) : (allAtoms ts).before a st = ts.all (fun c => c.before a st) := by
  induction ts with
  | nil => rfl
  | cons c t ih =>
    show (Jvm.Cond.and c (allAtoms t)).before a st = _
    rw [Jvm.Cond.before_and, ih, List.all_cons]
def words1 : List Jvm.Cond := Jvm.Cond.code x code maxLocals ret :: tables_1
/-- a 'code' word, met by the world's own term for the bytes: nothing is compared byte by byte -/
theorem code_word {y : MethodName} {bytes : ByteArray} {mx : Nat} {rt : Option FieldType} {a : Array Value} {s : State} {m : MethodId} {meth : Method} {c : Code} (h1 : s.methodNamed? y = some m) (h2 : s.vm.method? m = some meth) (h3 : meth.code = some c) (h4 : c.code = bytes)
    (h5 : (c.maxLocals == mx && c.exceptionTable.isEmpty && decide (c.maxStack ≤ mostOperands) && decide (meth.sig.returnType = rt) && !meth.locks && decide (parseMethodDescriptor y.desc = some meth.sig)) = true) : (Jvm.Cond.code y bytes mx rt).before a s = true := by
  simp only [Bool.and_eq_true, beq_iff_eq, Bool.not_eq_true', decide_eq_true_eq] at h5
  obtain ⟨⟨⟨⟨⟨g1, g2⟩, g3⟩, g4⟩, g5⟩, g6⟩ := h5
  simp [Cond.before, Cond.holds, Cond.value, h1, h2, h3, h4, g1, g2, g3, g4, g5, g6]
def isCode : Jvm.Cond → Bool
  | .code _ _ _ _ => true
  | _ => false
theorem all_split {L : List Jvm.Cond} {P : Jvm.Cond → Bool} (h1 : L.all (fun c => isCode c || P c) = true) (h2 : ∀ c ∈ L.filter isCode, P c = true) : L.all P = true := by
  refine List.all_eq_true.mpr fun c hc => ?_
  have h := List.all_eq_true.mp h1 c hc
  rcases Bool.eq_false_or_eq_true (isCode c) with hi | hi
  · exact h2 c (List.mem_filter.mpr ⟨hc, hi⟩)
  · simpa [hi] using h
set_option maxRecDepth 65536 in
theorem w_c0 : (Jvm.Cond.code x code maxLocals ret).before args0 about1 = true := code_word (m := ⟨1, 1⟩) (meth := k1m1) (c := k1c1) (by decide +kernel) rfl rfl rfl (by decide +kernel)
set_option maxRecDepth 65536 in
theorem w_c1 : (Jvm.Cond.code ({ cls := "com/example/tablewright/tablewright/io/Utf8", name := "length", desc := "(I)I" } : Jvm.MethodName) prog_74_method_2_code (2 : Nat) (Option.some Jvm.ClassFile.FieldType.int)).before args0 about1 = true := code_word (m := ⟨2, 1⟩) (meth := k2m1) (c := k2c1) (by decide +kernel) rfl rfl rfl (by decide +kernel)
def codes1 : List Jvm.Cond := [Jvm.Cond.code x code maxLocals ret, Jvm.Cond.code ({ cls := "com/example/tablewright/tablewright/io/Utf8", name := "length", desc := "(I)I" } : Jvm.MethodName) prog_74_method_2_code (2 : Nat) (Option.some Jvm.ClassFile.FieldType.int)]
set_option maxRecDepth 65536 in
theorem codes_eq : words1.filter isCode = codes1 := rfl
theorem w_codes : ∀ c ∈ words1.filter isCode, c.before args0 about1 = true := by
  rw [codes_eq]
  intro c hc
  simp only [codes1, List.mem_cons, List.not_mem_nil, or_false] at hc
  rcases hc with rfl | rfl
  · exact w_c0
  · exact w_c1
set_option maxRecDepth 65536 in
theorem w_t1 : words1.all (fun c => isCode c || c.before args0 about1) = true := by decide +kernel
theorem w_tables : (allAtoms (Jvm.Cond.code x code maxLocals ret :: tables_1)).before args0 about1 = true := by
  rw [allAtoms_all]
  show words1.all (fun c => c.before args0 about1) = true
  refine all_split ?_ w_codes
  rw [w_t1]
set_option maxRecDepth 65536 in
theorem w_case : (Jvm.Cond.and given_1 narrow_1).before args0 about1 = true := by decide +kernel
theorem w_applies : (headSpec (Jvm.Cond.code x code maxLocals ret :: tables_1) room_1).applies x e0.platform about1 = true :=
  (Spec.applies_iff w_frames).mpr ⟨w_running, w_runnable, w_alone, w_named, w_hears, w_ripe, w_room, w_tables⟩
theorem atStart : AtStart classFile x code maxLocals ret World_1 tables_1 room_1 Calls_1 rest_1 Pre_1 launch0 p0 e0 about1 theMethod args0 below0 :=
  ⟨lists_1, trivial, launch0.admits_env _ _ _, launch0.least_env, fairChoices_fair.cas, fairChoices_fair.clock, w_frames, w_args, w_heap, w_applies, trivial, trivial, w_case⟩
end start1
theorem witness_1 : WitnessClaimed_1 := ⟨start1.p0, start1.e0, start1.about1, start1.theMethod, start1.args0, start1.below0, start1.atStart⟩
end Jvm.Pilot.@@N@@
