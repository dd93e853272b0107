import JvmDerived
import JvmDerived.Pilot.@@N@@Statement
import JvmDerived.Pilot.@@N@@Code
set_option linter.unusedVariables false
set_option linter.unusedSimpArgs false
namespace Jvm.RoadKit
open Sem ClassFile Op Lib Jvm.Stand Jvm.Free Jvm.LawKit
section OwnKit
variable {p : Program} {l : Launch} {e : Env} {R : Room} {s : State} {m : MethodId} {args : Array Value} {below : List Frame} {meth : Method} {c : Code} {T : State} {locs : List Loc} {cells slots : Nat} {Z : State} {a0 : Array Value} {h h' : Heap} {a b : Addr}
variable {C N : Nat} {Q : Option Value → Heap → List Loc → Prop} {pc : Nat} {Ls : Array Slot} {rest : List Value}
/-- from the state A the invocation returns, with what Q says of the value, the heap and the places written -/
def own_Fin (p : Program) (e : Env) (below : List Frame) (s : State) (C N : Nat) (Q : Option Value → Heap → List Loc → Prop) (A : State) : Prop :=
  ∃ s₂ o, Steps p.tables e below A s₂ ∧ s₂.status = .running ∧ Ended s₂ below o ∧ ∃ v L, o = .returned v ∧ Q v s₂.heap L ∧ FrameEnd s o s₂ L C N
theorem own_of {A B : State} (st : ∀ t, Steps p.tables e below B t → Steps p.tables e below A t) (k : own_Fin p e below s C N Q B) : own_Fin p e below s C N Q A := by
  obtain ⟨s₂, o, h1, h2⟩ := k
  exact ⟨s₂, o, st _ h1, h2⟩
theorem own_mono {Q' : Option Value → Heap → List Loc → Prop} {A : State} (hq : ∀ v h L, Q v h L → Q' v h L) (k : own_Fin p e below s C N Q A) : own_Fin p e below s C N Q' A := by
  obtain ⟨s₂, o, h1, h2, h3, v, L, h4, h5, h6⟩ := k
  exact ⟨s₂, o, h1, h2, h3, v, L, h4, hq _ _ _ h5, h6⟩
/-- a body's contract: called with as' over the heap h0 it returns, and Q holds -/
def own_Met (l : Launch) (Z : State) (y : MethodName) (bytes : ByteArray) (maxL : Nat) (ret : Option FieldType) (rm : Room) (as' : Array Value) (h0 : Heap) (Q : Option Value → Heap → List Loc → Prop) : Prop :=
  ∀ ws : List Cond, MetFree l y (head1 (Cond.code y bytes maxL ret :: ws) rm) (fun a U => a = as' ∧ Z.Warmed39 U.vm ∧ U.heap = h0) (fun _ _ _ _ _ => True) (fun _ U o U' => ∃ v L, o = .returned v ∧ Q v U'.heap L ∧ FrameEnd U o U' L rm.cells rm.slots)
theorem own_met {y : MethodName} {bytes : ByteArray} {maxL : Nat} {ret : Option FieldType} {rm : Room} {as' : Array Value} {h0 : Heap} (hpl : plainFor y = true)
    (body : ∀ (p : Program) (e : Env) (s : State) (m : MethodId) (below : List Frame) (meth : Method) (c : Code) (T : State), Stand p l e rm s m as' below meth c T [] 0 0 → p.tables.exec = Jvm.exec → c.code = bytes → c.maxLocals = maxL → s.vm.findClass y.cls = some m.cls → Z.Warmed39 s.vm → T.heap = h0 → meth.sig.returnType = ret → meth.locks = false → meth.name = y.name →
      own_Fin p e below s rm.cells rm.slots Q (T.setTop (entryFrame m as' maxL))) : own_Met l Z y bytes maxL ret rm as' h0 Q := by
  intro ws
  refine MetFree.of_bodySF hpl hisR ?_
  intro p e s m args below meth c s₁ Bd hml0 hP hK
  obtain ⟨rfl, hZ, hh⟩ := hP
  have X0 : Stand p l e rm s m _ below meth c s₁ [] 0 0 := Stand.of_body Bd
  exact body p e s m below meth c s₁ X0 Bd.exec Bd.bytes hml0 (findClass_of_methodNamed Bd.named) hZ (by rw [← hh, Bd.state]; rfl) Bd.returns Bd.notSynchronized (name_of_methodNamed Bd.named Bd.method).1
/-! returns -/
theorem own_retI (X : Stand p l e R s m args below meth c T locs cells slots) (hx : p.tables.exec = Jvm.exec) (hlk : meth.locks = false) (eT : T.heap = h) {z : Int32} (hret : meth.sig.returnType = some .int) (hd : decode c.code pc = .ok (.ireturn, 1)) (hC : cells ≤ C) (hN : slots ≤ N) (hQ : Q (some (.int z)) h locs) :
    own_Fin p e below s C N Q (T.setTop (mkF m pc Ls (.int z :: rest))) := by
  obtain ⟨fs, hr, hrun, hended, hW, hsame⟩ := X.leave (v := some (.int z)) (fun h => by rw [hret] at h; cases h) hlk
  exact ⟨_, _, retOut X hx hret rfl (Or.inl ⟨rfl, Or.inl rfl, _, rfl⟩) hd hr, hrun, hended, _, _, rfl, (by show Q _ T.heap _; rw [eT]; exact hQ), ⟨_, rfl⟩, hW, hsame.mono hC hN⟩
theorem own_retN (X : Stand p l e R s m args below meth c T locs cells slots) (hx : p.tables.exec = Jvm.exec) (hlk : meth.locks = false) (eT : T.heap = h) {z z' : Int32} {t : FieldType} (hret : meth.sig.returnType = some t) (ht : t = .boolean ∨ t = .byte ∨ t = .char ∨ t = .short) (hd : decode c.code pc = .ok (.ireturn, 1)) (hC : cells ≤ C) (hN : slots ≤ N) (hz : nar t z = z') (hQ : Q (some (.int z')) h locs) :
    own_Fin p e below s C N Q (T.setTop (mkF m pc Ls (.int z :: rest))) := by
  subst hz
  obtain ⟨fs, hr, hrun, hended, hW, hsame⟩ := X.leave (v := some (.int (nar t z))) (fun h => by rw [hret] at h; cases h) hlk
  exact ⟨_, _, retN X hx hret ht hd hr, hrun, hended, _, _, rfl, (by show Q _ T.heap _; rw [eT]; exact hQ), ⟨_, rfl⟩, hW, hsame.mono hC hN⟩
theorem own_retJ (X : Stand p l e R s m args below meth c T locs cells slots) (hx : p.tables.exec = Jvm.exec) (hlk : meth.locks = false) (eT : T.heap = h) {z : Int64} (hret : meth.sig.returnType = some .long) (hd : decode c.code pc = .ok (.lreturn, 1)) (hC : cells ≤ C) (hN : slots ≤ N) (hQ : Q (some (.long z)) h locs) :
    own_Fin p e below s C N Q (T.setTop (mkF m pc Ls (.long z :: rest))) := by
  obtain ⟨fs, hr, hrun, hended, hW, hsame⟩ := X.leave (v := some (.long z)) (fun h => by rw [hret] at h; cases h) hlk
  exact ⟨_, _, retOut X hx hret rfl (Or.inr (Or.inl ⟨rfl, rfl, _, rfl⟩)) hd hr, hrun, hended, _, _, rfl, (by show Q _ T.heap _; rw [eT]; exact hQ), ⟨_, rfl⟩, hW, hsame.mono hC hN⟩
theorem own_retA (X : Stand p l e R s m args below meth c T locs cells slots) (hx : p.tables.exec = Jvm.exec) (hlk : meth.locks = false) (eT : T.heap = h) {t : FieldType} (ht : t.isReference = true) (hret : meth.sig.returnType = some t) (hn : narrow t (.ref a) = .ref a) (hd : decode c.code pc = .ok (.areturn, 1)) (hC : cells ≤ C) (hN : slots ≤ N) (hQ : Q (some (.ref a)) h locs) :
    own_Fin p e below s C N Q (T.setTop (mkF m pc Ls (.ref a :: rest))) := by
  obtain ⟨fs, hr, hrun, hended, hW, hsame⟩ := X.leave (v := some (.ref a)) (fun h => by rw [hret] at h; cases h) hlk
  exact ⟨_, _, retOut X hx hret hn (Or.inr (Or.inr (Or.inr (Or.inr ⟨rfl, ht, rfl⟩)))) hd hr, hrun, hended, _, _, rfl, (by show Q _ T.heap _; rw [eT]; exact hQ), ⟨_, rfl⟩, hW, hsame.mono hC hN⟩
theorem own_retV (X : Stand p l e R s m args below meth c T locs cells slots) (hx : p.tables.exec = Jvm.exec) (hlk : meth.locks = false) (eT : T.heap = h) (hret : meth.sig.returnType = none) (hd : decode c.code pc = .ok (.return_, 1)) (hC : cells ≤ C) (hN : slots ≤ N) (hQ : Q none h locs) :
    own_Fin p e below s C N Q (T.setTop (mkF m pc Ls [])) := by
  obtain ⟨fs, hr, hrun, hended, hW, hsame⟩ := X.leave (v := none) (fun _ => rfl) hlk
  exact ⟨_, _, X.returnOut hx hret hd hr, hrun, hended, _, _, rfl, (by show Q _ T.heap _; rw [eT]; exact hQ), ⟨_, rfl⟩, hW, hsame.mono hC hN⟩
/-! calls -/
theorem own_callS (X : Stand p l e R s m args below meth c T locs cells slots) (hx : p.tables.exec = Jvm.exec) (hZ : Z.Warmed39 s.vm) {own : String} {index : Nat} {y : MethodName} {bytes : ByteArray} {maxL : Nat} {ret : Option FieldType} {rm : Room} {W : Nat} {argsL : List Value} {Qc : Option Value → Heap → List Loc → Prop}
    (hown : s.vm.findClass own = some m.cls) (wl : (Cond.methodLink own index y).before a0 Z = true) (wst : (Cond.static y).before a0 Z = true) (wi : (Cond.initialized y.cls).before a0 Z = true) (wc : (Cond.code y bytes maxL ret).before a0 Z = true) (hy : y.cls ≠ "java/lang/invoke/MethodHandle" ∧ y.cls ≠ "java/lang/invoke/VarHandle")
    (eT : T.heap = h) (hM : own_Met l Z y bytes maxL ret rm argsL.toArray h Qc) (hfr : rm.frames + 1 ≤ R.frames) (hlo : W + (maxL + 11) + rm.locals ≤ R.locals) (hce : cells + rm.cells ≤ R.cells) (hsl : slots + rm.slots ≤ R.slots)
    (hsize : Ls.size = c.maxLocals) {ps : List FieldType} {r : Option FieldType} (hpd : parseMethodDescriptor y.desc = some ⟨ps, r⟩) (hlen : argsL.length = ps.length) {St : List Value} (hs : St = argsL.reverse ++ rest) (hW : (rest.map fun v => v.category).sum ≤ W) (hd : decode c.code pc = .ok (.invokestatic index, 3))
    (k : ∀ v T' h' L, Stand p l e R s m args below meth c T' (locs ++ L) (cells + rm.cells) (slots + rm.slots) → T'.heap = h' → Qc v h' L → own_Fin p e below s C N Q (T'.setTop (mkF m (pc + 3) Ls (v.toList ++ rest)))) :
    own_Fin p e below s C N Q (T.setTop (mkF m pc Ls St)) := by
  subst hs
  obtain ⟨v, _, ⟨T', L', k', n'⟩, -, X', ⟨Lc, hQ, l1, y1, z1⟩, st⟩ := Jvm.LawKit.callS X hx (y := y) hown (mvT hZ wl) (mvT hZ wst) (mvT hZ wi) (mvT hZ wc) hy (backOf (W := W) (hM []) hZ wc wi hfr hlo) (g := mkF m pc Ls (argsL.reverse ++ rest)) rfl hsize (argsL := argsL) (rest := rest) (lenOf hpd hlen) rfl (by show 2 * 0 + _ ≤ _; simpa using hW) hd (fun _ _ => ⟨rfl, eT, hce, hsl⟩)
  dsimp only [Pt.U, Pt.locs, Pt.cells, Pt.slots] at X' l1 y1 z1 st hQ
  subst l1 y1 z1
  exact own_of st (k _ _ _ _ X' rfl hQ)
def own_Pure (r : Value) (h : Heap) : Option Value → Heap → List Loc → Prop := fun v h' L => v = some r ∧ h' = h ∧ L = []
theorem own_callP (X : Stand p l e R s m args below meth c T locs cells slots) (hx : p.tables.exec = Jvm.exec) (hZ : Z.Warmed39 s.vm) {own : String} {index : Nat} {y : MethodName} {bytes : ByteArray} {maxL : Nat} {ret : Option FieldType} {fr lo : Nat} {W : Nat} {argsL : List Value} {rv : Value}
    (hown : s.vm.findClass own = some m.cls) (wl : (Cond.methodLink own index y).before a0 Z = true) (wst : (Cond.static y).before a0 Z = true) (wi : (Cond.initialized y.cls).before a0 Z = true) (wc : (Cond.code y bytes maxL ret).before a0 Z = true) (hy : y.cls ≠ "java/lang/invoke/MethodHandle" ∧ y.cls ≠ "java/lang/invoke/VarHandle")
    (eT : T.heap = h) (hM : own_Met l Z y bytes maxL ret { frames := fr, cells := 0, slots := 0, locals := lo } argsL.toArray h (own_Pure rv h)) (hfr : fr + 1 ≤ R.frames) (hlo : W + (maxL + 11) + lo ≤ R.locals) (hce : cells ≤ R.cells) (hsl : slots ≤ R.slots)
    (hsize : Ls.size = c.maxLocals) {ps : List FieldType} {r : Option FieldType} (hpd : parseMethodDescriptor y.desc = some ⟨ps, r⟩) (hlen : argsL.length = ps.length) {St : List Value} (hs : St = argsL.reverse ++ rest) (hW : (rest.map fun v => v.category).sum ≤ W) (hd : decode c.code pc = .ok (.invokestatic index, 3))
    (k : ∀ T', Stand p l e R s m args below meth c T' locs cells slots → T'.heap = h → own_Fin p e below s C N Q (T'.setTop (mkF m (pc + 3) Ls (rv :: rest)))) :
    own_Fin p e below s C N Q (T.setTop (mkF m pc Ls St)) := by
  refine own_callS X hx hZ hown wl wst wi wc hy eT hM hfr hlo hce hsl hsize hpd hlen hs hW hd ?_
  rintro v T' h' L X' e' ⟨rfl, rfl, rfl⟩
  rw [List.append_nil] at X'
  exact k T' X' e'
theorem own_callV (X : Stand p l e R s m args below meth c T locs cells slots) (hx : p.tables.exec = Jvm.exec) (hZ : Z.Warmed39 s.vm) {own K : String} {index : Nat} {y z : MethodName} {bytes : ByteArray} {maxL : Nat} {ret : Option FieldType} {rm : Room} {W : Nat} {argsL : List Value} {Qc : Option Value → Heap → List Loc → Prop}
    (hown : s.vm.findClass own = some m.cls) (wl : (Cond.methodLink own index y).before a0 Z = true) (wd : (Cond.declares y).before a0 Z = true) (hnf : NotFace s y) (wse : (Cond.selects K y z).before a0 Z = true) (win : (Cond.instanceMethod z).before a0 Z = true) (wi : (Cond.initialized z.cls).before a0 Z = true) (wc : (Cond.code z bytes maxL ret).before a0 Z = true) (hy : y.cls ≠ "java/lang/invoke/MethodHandle" ∧ y.cls ≠ "java/lang/invoke/VarHandle")
    (eT : T.heap = h) (E : Exa Z h b K) (hM : own_Met l Z z bytes maxL ret rm (.ref b :: argsL).toArray h Qc) (hfr : rm.frames + 1 ≤ R.frames) (hlo : W + (maxL + 11) + rm.locals ≤ R.locals) (hce : cells + rm.cells ≤ R.cells) (hsl : slots + rm.slots ≤ R.slots)
    (hsize : Ls.size = c.maxLocals) {ps : List FieldType} {r : Option FieldType} (hpd : parseMethodDescriptor y.desc = some ⟨ps, r⟩) (hlen : argsL.length = ps.length) {St : List Value} (hs : St = argsL.reverse ++ .ref b :: rest) (hW : (rest.map fun v => v.category).sum ≤ W) (hd : decode c.code pc = .ok (.invokevirtual index, 3))
    (k : ∀ v T' h' L, Stand p l e R s m args below meth c T' (locs ++ L) (cells + rm.cells) (slots + rm.slots) → T'.heap = h' → Qc v h' L → own_Fin p e below s C N Q (T'.setTop (mkF m (pc + 3) Ls (v.toList ++ rest)))) :
    own_Fin p e below s C N Q (T.setTop (mkF m pc Ls St)) := by
  subst hs
  obtain ⟨cq, kq, qa, qb, qc⟩ := isOf hZ eT E
  obtain ⟨v, _, ⟨T', L', k', n'⟩, -, X', ⟨Lc, hQ, l1, y1, z1⟩, st⟩ := X.virtualBack hx (y := y) (z := z) hown (mvT hZ wl) (mvT hZ wd) hnf (mvT hZ wse) (mvT hZ win) hy (backOf (W := W) (hM []) hZ wc wi hfr hlo) qa qc (g := mkF m pc Ls (argsL.reverse ++ .ref b :: rest)) rfl hsize (Steps.refl _) (argsL := argsL) (rest := rest) (lenOf hpd hlen) rfl (by show 2 * 0 + _ ≤ _; simpa using hW) hd (fun _ _ => ⟨rfl, eT, hce, hsl⟩)
  dsimp only [Pt.U, Pt.locs, Pt.cells, Pt.slots] at X' l1 y1 z1 st hQ
  subst l1 y1 z1
  exact own_of (fun t k => st.trans k) (k _ _ _ _ X' rfl hQ)
theorem own_callC (X : Stand p l e R s m args below meth c T locs cells slots) (hx : p.tables.exec = Jvm.exec) (hZ : Z.Warmed39 s.vm) {own : String} {index : Nat} {y : MethodName} {bytes : ByteArray} {maxL : Nat} {rm : Room} {W : Nat} {argsL : List Value} {Qc : Option Value → Heap → List Loc → Prop} (hn : y.name = "<init>")
    (hown : s.vm.findClass own = some m.cls) (wl : (Cond.methodLink own index y).before a0 Z = true) (win : (Cond.instanceMethod y).before a0 Z = true) (wi : (Cond.initialized y.cls).before a0 Z = true) (wc : (Cond.code y bytes maxL none).before a0 Z = true) (hy : y.cls ≠ "java/lang/invoke/MethodHandle" ∧ y.cls ≠ "java/lang/invoke/VarHandle")
    (eT : T.heap = h) (hM : own_Met l Z y bytes maxL none rm (.ref b :: argsL).toArray h Qc) (hfr : rm.frames + 1 ≤ R.frames) (hlo : W + (maxL + 11) + rm.locals ≤ R.locals) (hce : cells + rm.cells ≤ R.cells) (hsl : slots + rm.slots ≤ R.slots)
    (hsize : Ls.size = c.maxLocals) {ps : List FieldType} {r : Option FieldType} (hpd : parseMethodDescriptor y.desc = some ⟨ps, r⟩) (hlen : argsL.length = ps.length) {St : List Value} (hs : St = argsL.reverse ++ .ref b :: rest) (hW : (rest.map fun v => v.category).sum ≤ W) (hd : decode c.code pc = .ok (.invokespecial index, 3))
    (k : ∀ v T' h' L, Stand p l e R s m args below meth c T' (locs ++ L) (cells + rm.cells) (slots + rm.slots) → T'.heap = h' → Qc v h' L → own_Fin p e below s C N Q (T'.setTop (mkF m (pc + 3) Ls (v.toList ++ rest)))) :
    own_Fin p e below s C N Q (T.setTop (mkF m pc Ls St)) := by
  subst hs
  obtain ⟨v, _, ⟨T', L', k', n'⟩, -, X', ⟨Lc, hQ, l1, y1, z1⟩, st⟩ := X.specialBack hx (y := y) hn hown (mvT hZ wl) (mvT hZ win) (mvT hZ wc) hy (backOf (W := W) (hM []) hZ wc wi hfr hlo) (g := mkF m pc Ls (argsL.reverse ++ .ref b :: rest)) rfl hsize (Steps.refl _) (a := b) (argsL := argsL) (rest := rest) (lenOf hpd hlen) rfl (by show 2 * 0 + _ ≤ _; simpa using hW) hd (fun _ _ => ⟨rfl, eT, hce, hsl⟩)
  dsimp only [Pt.U, Pt.locs, Pt.cells, Pt.slots] at X' l1 y1 z1 st hQ
  subst l1 y1 z1
  exact own_of (fun t k => st.trans k) (k _ _ _ _ X' rfl hQ)
/-! arrays: n places, the j-th holds f j -/
def own_Arf (Z : State) (h : Heap) (a : Addr) (ty : FieldType) (n : Nat) (f : Nat → Value) : Prop := ∃ cl : Cell, Arr Z h a cl ty ∧ cl.slots.size = n ∧ ∀ j, j < n → cl.slots[j]? = some (f j)
section Ar
variable {ty : FieldType} {n : Nat} {f g : Nat → Value} {sl : Nat} {v : Value} {ws : List Addr}
theorem own_Arf.lt (F : own_Arf Z h a ty n f) : a < h.size := by obtain ⟨cl, A, -⟩ := F; exact A.lt
theorem own_Arf.ext (F : own_Arf Z h a ty n f) (E : Ext h h') : own_Arf Z h' a ty n f := by obtain ⟨cl, A, r⟩ := F; exact ⟨cl, A.ext E, r⟩
theorem own_Arf.other (F : own_Arf Z h b ty n f) (W : Wr h h' a sl v) (q : b ≠ a) : own_Arf Z h' b ty n f := by obtain ⟨cl, A, r⟩ := F; exact ⟨cl, A.other W q, r⟩
theorem own_Arf.keep (F : own_Arf Z h a ty n f) (K : Keep h h' ws) (q : a ∉ ws) : own_Arf Z h' a ty n f := by obtain ⟨cl, A, r⟩ := F; exact ⟨cl, ⟨K.2.1 a cl A.1 q, A.2⟩, r⟩
theorem own_Arf.congr (F : own_Arf Z h a ty n f) (q : ∀ j, j < n → f j = g j) : own_Arf Z h a ty n g := by obtain ⟨cl, A, r, s⟩ := F; exact ⟨cl, A, r, fun j hj => by rw [s j hj, q j hj]⟩
theorem own_Arf.set (F : own_Arf Z h a ty n f) (W : Wr h h' a sl v) : own_Arf Z h' a ty n (fun j => if j = sl then v else f j) := by
  obtain ⟨cl, A, r, q⟩ := F
  refine ⟨_, A.same W, by rw [sz_set]; exact r, fun j hj => ?_⟩
  by_cases u : j = sl
  · subst u; simp [Cell.setSlot, r, hj]
  · show (cl.slots.setIfInBounds sl v)[j]? = some (if j = sl then v else f j)
    rw [if_neg u, Array.getElem?_setIfInBounds_ne (Ne.symm u)]; exact q j hj
theorem own_Arf.new {k : ClassId} {z : Int32} (A : Arr Z h a (newA k ty z) ty) (hz : z.toInt = n) : own_Arf Z h a ty n (fun _ => defaultValue ty) := by
  have e : z.toNatClampNeg = n := by simp only [Int32.toNatClampNeg, hz]; rfl
  refine ⟨_, A, by rw [sz_new]; exact e, fun j hj => ?_⟩
  simp [newA, e, hj]
theorem own_in {j : Int32} {i k : Nat} (hj : j.toInt = i) (hi : i < k) : ¬ (j < 0 ∨ k ≤ j.toNatClampNeg) := by
  simp only [Int32.lt_iff_toInt_lt, Int32.toNatClampNeg, hj, Int32.reduceToInt]; omega
theorem own_nc {j : Int32} {i : Nat} (hj : j.toInt = i) : j.toNatClampNeg = i := by simp only [Int32.toNatClampNeg, hj]; rfl
theorem own_iaload (X : Stand p l e R s m args below meth c T locs cells slots) (hx : p.tables.exec = Jvm.exec) (hZ : Z.Warmed39 s.vm) (eT : T.heap = h) (F : own_Arf Z h a .int n f) {j : Int32} {i : Nat} (hj : j.toInt = i) (hi : i < n) (hv : f i = v) (hd : decode c.code pc = .ok (.iaload, 1))
    (k : own_Fin p e below s C N Q (T.setTop (mkF m (pc + 1) Ls (v :: rest)))) : own_Fin p e below s C N Q (T.setTop (mkF m pc Ls (.int j :: .ref a :: rest))) := by
  obtain ⟨cl, A, r, q⟩ := F
  exact own_of (fun t kk => X.iaload hx (j := j) (v := v) (by rw [eT]; exact A.1) (State.isArrayOf_alike hZ.alike A.2.1) A.2.2 (own_in hj (by rw [r]; exact hi)) (by rw [own_nc hj, q i hi, hv]) (g := mkF m pc Ls (.int j :: .ref a :: rest)) rfl rfl hd t kk) k
theorem own_laload (X : Stand p l e R s m args below meth c T locs cells slots) (hx : p.tables.exec = Jvm.exec) (hZ : Z.Warmed39 s.vm) (eT : T.heap = h) (F : own_Arf Z h a .long n f) {j : Int32} {i : Nat} (hj : j.toInt = i) (hi : i < n) (hv : f i = v) (hd : decode c.code pc = .ok (.laload, 1))
    (k : own_Fin p e below s C N Q (T.setTop (mkF m (pc + 1) Ls (v :: rest)))) : own_Fin p e below s C N Q (T.setTop (mkF m pc Ls (.int j :: .ref a :: rest))) := by
  obtain ⟨cl, A, r, q⟩ := F
  exact own_of (fun t kk => X.laload hx (j := j) (v := v) (by rw [eT]; exact A.1) (State.isArrayOf_alike hZ.alike A.2.1) A.2.2 (own_in hj (by rw [r]; exact hi)) (by rw [own_nc hj, q i hi, hv]) (g := mkF m pc Ls (.int j :: .ref a :: rest)) rfl rfl hd t kk) k
theorem own_caload (X : Stand p l e R s m args below meth c T locs cells slots) (hx : p.tables.exec = Jvm.exec) (hZ : Z.Warmed39 s.vm) (eT : T.heap = h) (F : own_Arf Z h a .char n f) {j : Int32} {i : Nat} (hj : j.toInt = i) (hi : i < n) (hv : f i = v) (hd : decode c.code pc = .ok (.caload, 1))
    (k : own_Fin p e below s C N Q (T.setTop (mkF m (pc + 1) Ls (v :: rest)))) : own_Fin p e below s C N Q (T.setTop (mkF m pc Ls (.int j :: .ref a :: rest))) := by
  obtain ⟨cl, A, r, q⟩ := F
  exact own_of (fun t kk => X.caload hx (j := j) (v := v) (by rw [eT]; exact A.1) (State.isArrayOf_alike hZ.alike A.2.1) A.2.2 (own_in hj (by rw [r]; exact hi)) (by rw [own_nc hj, q i hi, hv]) (g := mkF m pc Ls (.int j :: .ref a :: rest)) rfl rfl hd t kk) k
theorem own_baload (X : Stand p l e R s m args below meth c T locs cells slots) (hx : p.tables.exec = Jvm.exec) (hZ : Z.Warmed39 s.vm) (eT : T.heap = h) (F : own_Arf Z h a .byte n f) {j : Int32} {i : Nat} (hj : j.toInt = i) (hi : i < n) (hv : f i = v) (hd : decode c.code pc = .ok (.baload, 1))
    (k : own_Fin p e below s C N Q (T.setTop (mkF m (pc + 1) Ls (v :: rest)))) : own_Fin p e below s C N Q (T.setTop (mkF m pc Ls (.int j :: .ref a :: rest))) := by
  obtain ⟨cl, A, r, q⟩ := F
  exact own_of (fun t kk => X.baloadBytes hx (j := j) (v := v) (by rw [eT]; exact A.1) (State.isArrayOf_alike hZ.alike A.2.1) A.2.2 (own_in hj (by rw [r]; exact hi)) (by rw [own_nc hj, q i hi, hv]) (g := mkF m pc Ls (.int j :: .ref a :: rest)) rfl rfl hd t kk) k
theorem own_zaload (X : Stand p l e R s m args below meth c T locs cells slots) (hx : p.tables.exec = Jvm.exec) (hZ : Z.Warmed39 s.vm) (eT : T.heap = h) (F : own_Arf Z h a .boolean n f) {j : Int32} {i : Nat} (hj : j.toInt = i) (hi : i < n) (hv : f i = v) (hd : decode c.code pc = .ok (.baload, 1))
    (k : own_Fin p e below s C N Q (T.setTop (mkF m (pc + 1) Ls (v :: rest)))) : own_Fin p e below s C N Q (T.setTop (mkF m pc Ls (.int j :: .ref a :: rest))) := by
  obtain ⟨cl, A, r, q⟩ := F
  exact own_of (fun t kk => X.baloadBooleans hx (j := j) (v := v) (by rw [eT]; exact A.1) (State.isArrayOf_alike hZ.alike A.2.1) A.2.2 (own_in hj (by rw [r]; exact hi)) (by rw [own_nc hj, q i hi, hv]) (g := mkF m pc Ls (.int j :: .ref a :: rest)) rfl rfl hd t kk) k
theorem own_arraylength (X : Stand p l e R s m args below meth c T locs cells slots) (hx : p.tables.exec = Jvm.exec) (hZ : Z.Warmed39 s.vm) (eT : T.heap = h) (F : own_Arf Z h a ty n f) {z : Int32} (hz : z.toInt = n) (hd : decode c.code pc = .ok (.arraylength, 1))
    (k : own_Fin p e below s C N Q (T.setTop (mkF m (pc + 1) Ls (.int z :: rest)))) : own_Fin p e below s C N Q (T.setTop (mkF m pc Ls (.ref a :: rest))) := by
  obtain ⟨cl, A, r, q⟩ := F
  have e1 : cl.slots.size.toInt32 = z := by
    have hlt := Int32.toInt_lt z
    apply Int32.toInt_inj.mp
    rw [r, len_toInt (by omega), hz]
  refine own_of (fun t kk => X.arraylength hx (by rw [eT]; exact A.1) (State.isArrayOf_alike hZ.alike A.2.1) (g := mkF m pc Ls (.ref a :: rest)) rfl rfl hd t kk) ?_
  rw [e1]; exact k
variable {n0 : Nat}
theorem own_st {kd : Value} {i : Nat} {j : Int32} (hj : j.toInt = i) (F : own_Arf Z h a ty n f) (hN : Fr n0 locs) (ge : n0 ≤ a) {A : State} {fr : JFrame}
    (hst : ∃ T' h', Stand p l e R s m args below meth c T' (locs ++ [⟨a, j.toNatClampNeg⟩]) cells slots ∧ T'.heap = h' ∧ Wr h h' a j.toNatClampNeg kd ∧ ∀ target, Steps p.tables e below (T'.setTop fr) target → Steps p.tables e below A target)
    (k : ∀ T' h' locs', Stand p l e R s m args below meth c T' locs' cells slots → Fr n0 locs' → T'.heap = h' → Wr h h' a i kd → own_Arf Z h' a ty n (fun j => if j = i then kd else f j) → own_Fin p e below s C N Q (T'.setTop fr)) :
    own_Fin p e below s C N Q A := by
  obtain ⟨T', h', X', e', W, st⟩ := hst
  have hN' := Fr.snoc X' hN ge
  rw [own_nc hj] at W
  exact own_of st (k T' h' _ X' hN' e' W (F.set W))
theorem own_iastore (X : Stand p l e R s m args below meth c T locs cells slots) (hx : p.tables.exec = Jvm.exec) (hZ : Z.Warmed39 s.vm) (eT : T.heap = h) (F : own_Arf Z h a .int n f) (hN : Fr n0 locs) (ge : n0 ≤ a) {j x : Int32} {i : Nat} (hj : j.toInt = i) (hi : i < n) (hd : decode c.code pc = .ok (.iastore, 1))
    (k : ∀ T' h' locs', Stand p l e R s m args below meth c T' locs' cells slots → Fr n0 locs' → T'.heap = h' → Wr h h' a i (.int x) → own_Arf Z h' a .int n (fun j => if j = i then .int x else f j) → own_Fin p e below s C N Q (T'.setTop (mkF m (pc + 1) Ls rest))) :
    own_Fin p e below s C N Q (T.setTop (mkF m pc Ls (.int x :: .int j :: .ref a :: rest))) := by
  have F' := F
  obtain ⟨cl, A, r, q⟩ := F
  exact own_st hj F' hN ge (stI X hx hZ eT A (j := j) (own_in hj (by rw [r]; exact hi)) (g := mkF m pc Ls (.int x :: .int j :: .ref a :: rest)) rfl rfl hd) k
theorem own_lastore (X : Stand p l e R s m args below meth c T locs cells slots) (hx : p.tables.exec = Jvm.exec) (hZ : Z.Warmed39 s.vm) (eT : T.heap = h) (F : own_Arf Z h a .long n f) (hN : Fr n0 locs) (ge : n0 ≤ a) {j : Int32} {x : Int64} {i : Nat} (hj : j.toInt = i) (hi : i < n) (hd : decode c.code pc = .ok (.lastore, 1))
    (k : ∀ T' h' locs', Stand p l e R s m args below meth c T' locs' cells slots → Fr n0 locs' → T'.heap = h' → Wr h h' a i (.long x) → own_Arf Z h' a .long n (fun j => if j = i then .long x else f j) → own_Fin p e below s C N Q (T'.setTop (mkF m (pc + 1) Ls rest))) :
    own_Fin p e below s C N Q (T.setTop (mkF m pc Ls (.long x :: .int j :: .ref a :: rest))) := by
  have F' := F
  obtain ⟨cl, A, r, q⟩ := F
  exact own_st hj F' hN ge (stJ X hx hZ eT A (j := j) (own_in hj (by rw [r]; exact hi)) (g := mkF m pc Ls (.long x :: .int j :: .ref a :: rest)) rfl rfl hd) k
theorem own_bastore (X : Stand p l e R s m args below meth c T locs cells slots) (hx : p.tables.exec = Jvm.exec) (hZ : Z.Warmed39 s.vm) (eT : T.heap = h) (F : own_Arf Z h a .byte n f) (hN : Fr n0 locs) (ge : n0 ≤ a) {j x : Int32} {i : Nat} (hj : j.toInt = i) (hi : i < n) (hd : decode c.code pc = .ok (.bastore, 1))
    (k : ∀ T' h' locs', Stand p l e R s m args below meth c T' locs' cells slots → Fr n0 locs' → T'.heap = h' → Wr h h' a i (.int x.toInt8.toInt32) → own_Arf Z h' a .byte n (fun j => if j = i then .int x.toInt8.toInt32 else f j) → own_Fin p e below s C N Q (T'.setTop (mkF m (pc + 1) Ls rest))) :
    own_Fin p e below s C N Q (T.setTop (mkF m pc Ls (.int x :: .int j :: .ref a :: rest))) := by
  have F' := F
  obtain ⟨cl, A, r, q⟩ := F
  exact own_st hj F' hN ge (stB X hx hZ eT A (j := j) (own_in hj (by rw [r]; exact hi)) (g := mkF m pc Ls (.int x :: .int j :: .ref a :: rest)) rfl rfl hd) k
theorem own_castore (X : Stand p l e R s m args below meth c T locs cells slots) (hx : p.tables.exec = Jvm.exec) (hZ : Z.Warmed39 s.vm) (eT : T.heap = h) (F : own_Arf Z h a .char n f) (hN : Fr n0 locs) (ge : n0 ≤ a) {j x : Int32} {i : Nat} (hj : j.toInt = i) (hi : i < n) (hd : decode c.code pc = .ok (.castore, 1))
    (k : ∀ T' h' locs', Stand p l e R s m args below meth c T' locs' cells slots → Fr n0 locs' → T'.heap = h' → Wr h h' a i (.int x.toUInt32.toUInt16.toUInt32.toInt32) → own_Arf Z h' a .char n (fun j => if j = i then .int x.toUInt32.toUInt16.toUInt32.toInt32 else f j) → own_Fin p e below s C N Q (T'.setTop (mkF m (pc + 1) Ls rest))) :
    own_Fin p e below s C N Q (T.setTop (mkF m pc Ls (.int x :: .int j :: .ref a :: rest))) := by
  have F' := F
  obtain ⟨cl, A, r, q⟩ := F
  exact own_st hj F' hN ge (stC X hx hZ eT A (j := j) (own_in hj (by rw [r]; exact hi)) (g := mkF m pc Ls (.int x :: .int j :: .ref a :: rest)) rfl rfl hd) k
theorem own_zastore (X : Stand p l e R s m args below meth c T locs cells slots) (hx : p.tables.exec = Jvm.exec) (hZ : Z.Warmed39 s.vm) (eT : T.heap = h) (F : own_Arf Z h a .boolean n f) (hN : Fr n0 locs) (ge : n0 ≤ a) {j x : Int32} {i : Nat} (hj : j.toInt = i) (hi : i < n) (hd : decode c.code pc = .ok (.bastore, 1))
    (k : ∀ T' h' locs', Stand p l e R s m args below meth c T' locs' cells slots → Fr n0 locs' → T'.heap = h' → Wr h h' a i (.int (x &&& 1)) → own_Arf Z h' a .boolean n (fun j => if j = i then .int (x &&& 1) else f j) → own_Fin p e below s C N Q (T'.setTop (mkF m (pc + 1) Ls rest))) :
    own_Fin p e below s C N Q (T.setTop (mkF m pc Ls (.int x :: .int j :: .ref a :: rest))) := by
  have F' := F
  obtain ⟨cl, A, r, q⟩ := F
  exact own_st hj F' hN ge (stZ X hx hZ eT A (j := j) (own_in hj (by rw [r]; exact hi)) (g := mkF m pc Ls (.int x :: .int j :: .ref a :: rest)) rfl rfl hd) k
theorem own_newP (X : Stand p l e R s m args below meth c T locs cells slots) (hx : p.tables.exec = Jvm.exec) (hZ : Z.Warmed39 s.vm) {aty : ArrayType} (w : (Cond.arrayClass (newarray.typeOf aty)).before a0 Z = true) (eT : T.heap = h) (hd : decode c.code pc = .ok (.newarray aty, 2)) {z : Int32} (hz : z.toInt = n) {cap : Nat} (hcap : n ≤ cap) (hb : cap * 8 ≤ 536870912) (hc : cells + 1 ≤ R.cells) (hl : slots + cap ≤ R.slots)
    (k : ∀ T' h' b, Stand p l e R s m args below meth c T' locs (cells + 1) (slots + cap) → T'.heap = h' → Ext h h' → b = h.size → own_Arf Z h' b (newarray.typeOf aty) n (fun _ => defaultValue (newarray.typeOf aty)) → own_Fin p e below s C N Q (T'.setTop (mkF m (pc + 2) Ls (.ref b :: rest)))) :
    own_Fin p e below s C N Q (T.setTop (mkF m pc Ls (.int z :: rest))) := by
  obtain ⟨T', h', cA, X', e', E, A, st⟩ := newP X hx hZ w eT (g := mkF m pc Ls (.int z :: rest)) rfl hd rfl (by rw [Int32.lt_iff_toInt_lt, hz]; show ¬ (n : Int) < 0; omega) (cap := cap) (by rw [own_nc hz]; exact hcap) hb hc hl
  exact own_of st (k T' h' _ X' e' E rfl (own_Arf.new A hz))
end Ar
/-! objects -/
section Ob
variable {n0 : Nat} {v : Value}
theorem own_getF (X : Stand p l e R s m args below meth c T locs cells slots) (hx : p.tables.exec = Jvm.exec) (hZ : Z.Warmed39 s.vm) {own O n d : String} {index : Nat} (hown : s.vm.findClass own = some m.cls) (w : (Cond.fieldLink own index O n d).before a0 Z = true) (eT : T.heap = h) (F : Fld Z h a O n d v) (hd : decode c.code pc = .ok (.getfield index, 3))
    (k : ∀ T', Stand p l e R s m args below meth c T' locs cells slots → T'.heap = h → own_Fin p e below s C N Q (T'.setTop (mkF m (pc + 3) Ls (v :: rest)))) :
    own_Fin p e below s C N Q (T.setTop (mkF m pc Ls (.ref a :: rest))) := by
  obtain ⟨T', X', e', st⟩ := getF X hx hZ hown (host := "") (Or.inl w) Via.refl eT F (g := mkF m pc Ls (.ref a :: rest)) rfl rfl hd
  exact own_of st (k T' X' e')
theorem own_putF (X : Stand p l e R s m args below meth c T locs cells slots) (hx : p.tables.exec = Jvm.exec) (hZ : Z.Warmed39 s.vm) {own O n d K : String} {index kk : Nat} {ty : FieldType} {old : Value} (hown : s.vm.findClass own = some m.cls) (w : (Cond.fieldLink own index O n d).before a0 Z = true) (eT : T.heap = h) (F : Fld Z h a O n d old) (E : Exa Z h a K)
    (L : (Cond.lays K O n d).before a0 Z = true ∨ ((Cond.laysFinal K O n d).before a0 Z = true ∧ own = O ∧ meth.name = "<init>")) (wi : (Cond.instantiable K kk).before a0 Z = true) (hty : parseFieldDescriptor d = some ty) (hn : narrow ty v = v) (hf : fits ty v = true) (hN : Fr n0 locs) (ge : n0 ≤ a) (hd : decode c.code pc = .ok (.putfield index, 3))
    (k : ∀ T' h' locs', Stand p l e R s m args below meth c T' locs' cells slots → Fr n0 locs' → T'.heap = h' → Wr h h' a (slotOf Z O n d) v → own_Fin p e below s C N Q (T'.setTop (mkF m (pc + 3) Ls rest))) :
    own_Fin p e below s C N Q (T.setTop (mkF m pc Ls (v :: .ref a :: rest))) := by
  obtain ⟨T', h', X', e', W, st⟩ := putF X hx hZ hown (host := "") (Or.inl w) Via.refl eT F E L wi hty hn hf (g := mkF m pc Ls (v :: .ref a :: rest)) rfl rfl hd
  exact own_of st (k T' h' _ X' (Fr.snoc X' hN ge) e' W)
theorem own_newO (X : Stand p l e R s m args below meth c T locs cells slots) (hx : p.tables.exec = Jvm.exec) (hZ : Z.Warmed39 s.vm) {own K : String} {index n : Nat} (hown : s.vm.findClass own = some m.cls) (w : (Cond.classLink own index K).before a0 Z = true) (wi : (Cond.instantiable K n).before a0 Z = true) (wz : (Cond.initialized K).before a0 Z = true) (eT : T.heap = h) (hd : decode c.code pc = .ok (.new index, 3)) (hc : cells + 1 ≤ R.cells) (hl : slots + n ≤ R.slots)
    (k : ∀ T' h' b, Stand p l e R s m args below meth c T' locs (cells + 1) (slots + n) → T'.heap = h' → Ext h h' → b = h.size → Exa Z h' b K → (∀ {O nm d : String} {ty : FieldType}, Laid Z a0 K O nm d → parseFieldDescriptor d = some ty → Fld Z h' b O nm d (defaultValue ty)) → own_Fin p e below s C N Q (T'.setTop (mkF m (pc + 3) Ls (.ref b :: rest)))) :
    own_Fin p e below s C N Q (T.setTop (mkF m pc Ls rest)) := by
  obtain ⟨T', h', X', e', E, A, D, -, st⟩ := newO X hx hZ hown w wi wz eT (g := mkF m pc Ls rest) rfl hd hc hl
  exact own_of st (k T' h' _ X' e' E rfl A D)
theorem own_initO (X : Stand p l e R s m args below meth c T locs cells slots) (hx : p.tables.exec = Jvm.exec) (hZ : Z.Warmed39 s.vm) {own : String} {idx : Nat} (hown : s.vm.findClass own = some m.cls) (w1 : (Cond.methodLink own idx Lib.objectInit).before a0 Z = true) (w2 : (Cond.instanceMethod Lib.objectInit).before a0 Z = true) (w3 : (Cond.code Lib.objectInit ⟨#[0xb1]⟩ 1 none).before a0 Z = true) (eT : T.heap = h) (hsize : Ls.size = c.maxLocals) (hd : decode c.code pc = .ok (.invokespecial idx, 3)) (hf : 1 ≤ R.frames) {W : Nat} (hW : (rest.map fun v => v.category).sum ≤ W) (hl : W + 12 ≤ R.locals)
    (k : ∀ T', Stand p l e R s m args below meth c T' locs cells slots → T'.heap = h → own_Fin p e below s C N Q (T'.setTop (mkF m (pc + 3) Ls rest))) :
    own_Fin p e below s C N Q (T.setTop (mkF m pc Ls (.ref a :: rest))) := by
  obtain ⟨T', X', e', st⟩ := initO X hx hZ hown w1 w2 w3 eT (g := mkF m pc Ls (.ref a :: rest)) rfl hsize rfl hd hf (W := W) (by show 2 * 0 + _ ≤ _; simpa using hW) hl
  exact own_of st (k T' X' e')
theorem own_wide (X : Stand p l e R s m args below meth c T locs cells slots) {cells' slots' : Nat} (h1 : cells ≤ cells') (h2 : slots ≤ slots') : Stand p l e R s m args below meth c T locs cells' slots' := { X with same := X.same.mono h1 h2 }
end Ob
theorem own_lremM {g : JFrame} {target : State} (X : Stand p l e R s m args below meth c T locs cells slots) (hx : p.tables.exec = Jvm.exec) (hg : g.method = m) {x y : Int64} (hd : decode c.code g.pc = .ok (.lrem, 1)) (hs : g.stack = .long y :: .long x :: rest) (hy : y ≠ 0)
    (hr : Steps p.tables e below (T.setTop { g with pc := g.pc + 1, stack := .long (x % y) :: rest }) target) : Steps p.tables e below (T.setTop g) target := by
  refine XS.lrem X.here hx hg hd hs hy ?_
  rw [lrem_mod]; exact hr
end OwnKit
def own_iushr (x y : Int32) : Int32 := (x.toUInt32 >>> (y &&& 31).toUInt32).toInt32
def own_ishl (x y : Int32) : Int32 := x <<< (y &&& 31)
def own_ishr (x y : Int32) : Int32 := x >>> (y &&& 31)
def own_lushr (x : Int64) (y : Int32) : Int64 := (x.toUInt64 >>> (y &&& 0x3f).toInt64.toUInt64).toInt64
def own_lshl (x : Int64) (y : Int32) : Int64 := x <<< (y &&& 0x3f).toInt64
def own_lshr (x : Int64) (y : Int32) : Int64 := x >>> (y &&& 0x3f).toInt64
def own_i2b (x : Int32) : Int32 := x.toInt8.toInt32
def own_i2c (x : Int32) : Int32 := x.toUInt32.toUInt16.toUInt32.toInt32
def own_i2s (x : Int32) : Int32 := x.toInt16.toInt32
end Jvm.RoadKit
namespace Jvm.Pilot.@@N@@
open Jvm Jvm.ClassFile Sem Op Lib Jvm.Free Jvm.Stand Jvm.LawKit Jvm.RoadKit Bundle Jvm.Pilot.@@N@@.Jvm.D
theorem d1_0 : decode jdk_29_method_70_code 0 = .ok (.lload_n 0, 1) := by decide +kernel
theorem d1_1 : decode jdk_29_method_70_code 1 = .ok (.lload_n 2, 1) := by decide +kernel
theorem d1_2 : decode jdk_29_method_70_code 2 = .ok (.lcmp, 1) := by decide +kernel
theorem d1_3 : decode jdk_29_method_70_code 3 = .ok (.ifCond .gt 7, 3) := by decide +kernel
theorem d1_6 : decode jdk_29_method_70_code 6 = .ok (.lload_n 0, 1) := by decide +kernel
theorem d1_7 : decode jdk_29_method_70_code 7 = .ok (.goto 4, 3) := by decide +kernel
theorem d1_10 : decode jdk_29_method_70_code 10 = .ok (.lload_n 2, 1) := by decide +kernel
theorem d1_11 : decode jdk_29_method_70_code 11 = .ok (.lreturn, 1) := by decide +kernel
theorem d2_0 : decode prog_63_method_1_code 0 = .ok (.aload_n 0, 1) := by decide +kernel
theorem d2_1 : decode prog_63_method_1_code 1 = .ok (.invokespecial 1, 3) := by decide +kernel
theorem d2_4 : decode prog_63_method_1_code 4 = .ok (.aload_n 0, 1) := by decide +kernel
theorem d2_5 : decode prog_63_method_1_code 5 = .ok (.bipush 16, 2) := by decide +kernel
theorem d2_7 : decode prog_63_method_1_code 7 = .ok (.newarray .long, 2) := by decide +kernel
theorem d2_9 : decode prog_63_method_1_code 9 = .ok (.putfield 9, 3) := by decide +kernel
theorem d2_12 : decode prog_63_method_1_code 12 = .ok (.aload_n 0, 1) := by decide +kernel
theorem d2_13 : decode prog_63_method_1_code 13 = .ok (.bipush 16, 2) := by decide +kernel
theorem d2_15 : decode prog_63_method_1_code 15 = .ok (.newarray .int, 2) := by decide +kernel
theorem d2_17 : decode prog_63_method_1_code 17 = .ok (.putfield 13, 3) := by decide +kernel
theorem d2_20 : decode prog_63_method_1_code 20 = .ok (.aload_n 0, 1) := by decide +kernel
theorem d2_21 : decode prog_63_method_1_code 21 = .ok (.bipush 16, 2) := by decide +kernel
theorem d2_23 : decode prog_63_method_1_code 23 = .ok (.newarray .int, 2) := by decide +kernel
theorem d2_25 : decode prog_63_method_1_code 25 = .ok (.putfield 17, 3) := by decide +kernel
theorem d2_28 : decode prog_63_method_1_code 28 = .ok (.aload_n 0, 1) := by decide +kernel
theorem d2_29 : decode prog_63_method_1_code 29 = .ok (.lload_n 1, 1) := by decide +kernel
theorem d2_30 : decode prog_63_method_1_code 30 = .ok (.putfield 20, 3) := by decide +kernel
theorem d2_33 : decode prog_63_method_1_code 33 = .ok (.return_, 1) := by decide +kernel
theorem d4_0 : decode prog_63_method_3_code 0 = .ok (.aload_n 0, 1) := by decide +kernel
theorem d4_1 : decode prog_63_method_3_code 1 = .ok (.getfield 34, 3) := by decide +kernel
theorem d4_4 : decode prog_63_method_3_code 4 = .ok (.aload_n 0, 1) := by decide +kernel
theorem d4_5 : decode prog_63_method_3_code 5 = .ok (.getfield 9, 3) := by decide +kernel
theorem d4_8 : decode prog_63_method_3_code 8 = .ok (.arraylength, 1) := by decide +kernel
theorem d4_9 : decode prog_63_method_3_code 9 = .ok (.if_icmp .ne 60, 3) := by decide +kernel
theorem d4_12 : decode prog_63_method_3_code 12 = .ok (.ldc2_w 38, 3) := by decide +kernel
theorem d4_15 : decode prog_63_method_3_code 15 = .ok (.aload_n 0, 1) := by decide +kernel
theorem d4_16 : decode prog_63_method_3_code 16 = .ok (.getfield 34, 3) := by decide +kernel
theorem d4_19 : decode prog_63_method_3_code 19 = .ok (.i2l, 1) := by decide +kernel
theorem d4_20 : decode prog_63_method_3_code 20 = .ok (.lmul, 1) := by decide +kernel
theorem d4_21 : decode prog_63_method_3_code 21 = .ok (.ldc2_w 42, 3) := by decide +kernel
theorem d4_24 : decode prog_63_method_3_code 24 = .ok (.invokestatic 44, 3) := by decide +kernel
theorem d4_27 : decode prog_63_method_3_code 27 = .ok (.l2i, 1) := by decide +kernel
theorem d4_28 : decode prog_63_method_3_code 28 = .ok (.istore 5, 2) := by decide +kernel
theorem d4_30 : decode prog_63_method_3_code 30 = .ok (.aload_n 0, 1) := by decide +kernel
theorem d4_31 : decode prog_63_method_3_code 31 = .ok (.aload_n 0, 1) := by decide +kernel
theorem d4_32 : decode prog_63_method_3_code 32 = .ok (.getfield 9, 3) := by decide +kernel
theorem d4_35 : decode prog_63_method_3_code 35 = .ok (.iload 5, 2) := by decide +kernel
theorem d4_37 : decode prog_63_method_3_code 37 = .ok (.invokestatic 50, 3) := by decide +kernel
theorem d4_40 : decode prog_63_method_3_code 40 = .ok (.putfield 9, 3) := by decide +kernel
theorem d4_43 : decode prog_63_method_3_code 43 = .ok (.aload_n 0, 1) := by decide +kernel
theorem d4_44 : decode prog_63_method_3_code 44 = .ok (.aload_n 0, 1) := by decide +kernel
theorem d4_45 : decode prog_63_method_3_code 45 = .ok (.getfield 13, 3) := by decide +kernel
theorem d4_48 : decode prog_63_method_3_code 48 = .ok (.iload 5, 2) := by decide +kernel
theorem d4_50 : decode prog_63_method_3_code 50 = .ok (.invokestatic 56, 3) := by decide +kernel
theorem d4_53 : decode prog_63_method_3_code 53 = .ok (.putfield 13, 3) := by decide +kernel
theorem d4_56 : decode prog_63_method_3_code 56 = .ok (.aload_n 0, 1) := by decide +kernel
theorem d4_57 : decode prog_63_method_3_code 57 = .ok (.aload_n 0, 1) := by decide +kernel
theorem d4_58 : decode prog_63_method_3_code 58 = .ok (.getfield 17, 3) := by decide +kernel
theorem d4_61 : decode prog_63_method_3_code 61 = .ok (.iload 5, 2) := by decide +kernel
theorem d4_63 : decode prog_63_method_3_code 63 = .ok (.invokestatic 56, 3) := by decide +kernel
theorem d4_66 : decode prog_63_method_3_code 66 = .ok (.putfield 17, 3) := by decide +kernel
theorem d4_69 : decode prog_63_method_3_code 69 = .ok (.aload_n 0, 1) := by decide +kernel
theorem d4_70 : decode prog_63_method_3_code 70 = .ok (.getfield 9, 3) := by decide +kernel
theorem d4_73 : decode prog_63_method_3_code 73 = .ok (.aload_n 0, 1) := by decide +kernel
theorem d4_74 : decode prog_63_method_3_code 74 = .ok (.getfield 34, 3) := by decide +kernel
theorem d4_77 : decode prog_63_method_3_code 77 = .ok (.lload_n 1, 1) := by decide +kernel
theorem d4_78 : decode prog_63_method_3_code 78 = .ok (.lastore, 1) := by decide +kernel
theorem d4_79 : decode prog_63_method_3_code 79 = .ok (.aload_n 0, 1) := by decide +kernel
theorem d4_80 : decode prog_63_method_3_code 80 = .ok (.getfield 13, 3) := by decide +kernel
theorem d4_83 : decode prog_63_method_3_code 83 = .ok (.aload_n 0, 1) := by decide +kernel
theorem d4_84 : decode prog_63_method_3_code 84 = .ok (.getfield 34, 3) := by decide +kernel
theorem d4_87 : decode prog_63_method_3_code 87 = .ok (.iload_n 3, 1) := by decide +kernel
theorem d4_88 : decode prog_63_method_3_code 88 = .ok (.iastore, 1) := by decide +kernel
theorem d4_89 : decode prog_63_method_3_code 89 = .ok (.aload_n 0, 1) := by decide +kernel
theorem d4_90 : decode prog_63_method_3_code 90 = .ok (.getfield 17, 3) := by decide +kernel
theorem d4_93 : decode prog_63_method_3_code 93 = .ok (.aload_n 0, 1) := by decide +kernel
theorem d4_94 : decode prog_63_method_3_code 94 = .ok (.getfield 34, 3) := by decide +kernel
theorem d4_97 : decode prog_63_method_3_code 97 = .ok (.iload 4, 2) := by decide +kernel
theorem d4_99 : decode prog_63_method_3_code 99 = .ok (.iastore, 1) := by decide +kernel
theorem d4_100 : decode prog_63_method_3_code 100 = .ok (.aload_n 0, 1) := by decide +kernel
theorem d4_101 : decode prog_63_method_3_code 101 = .ok (.dup, 1) := by decide +kernel
theorem d4_102 : decode prog_63_method_3_code 102 = .ok (.getfield 34, 3) := by decide +kernel
theorem d4_105 : decode prog_63_method_3_code 105 = .ok (.iconst 1, 1) := by decide +kernel
theorem d4_106 : decode prog_63_method_3_code 106 = .ok (.iadd, 1) := by decide +kernel
theorem d4_107 : decode prog_63_method_3_code 107 = .ok (.putfield 34, 3) := by decide +kernel
theorem d4_110 : decode prog_63_method_3_code 110 = .ok (.return_, 1) := by decide +kernel
theorem d5_0 : decode prog_63_method_5_code 0 = .ok (.aload_n 0, 1) := by decide +kernel
theorem d5_1 : decode prog_63_method_5_code 1 = .ok (.getfield 9, 3) := by decide +kernel
theorem d5_4 : decode prog_63_method_5_code 4 = .ok (.lload_n 1, 1) := by decide +kernel
theorem d5_5 : decode prog_63_method_5_code 5 = .ok (.aload_n 0, 1) := by decide +kernel
theorem d5_6 : decode prog_63_method_5_code 6 = .ok (.getfield 20, 3) := by decide +kernel
theorem d5_9 : decode prog_63_method_5_code 9 = .ok (.lsub, 1) := by decide +kernel
theorem d5_10 : decode prog_63_method_5_code 10 = .ok (.l2i, 1) := by decide +kernel
theorem d5_11 : decode prog_63_method_5_code 11 = .ok (.laload, 1) := by decide +kernel
theorem d5_12 : decode prog_63_method_5_code 12 = .ok (.lreturn, 1) := by decide +kernel
theorem pd_1 : parseMethodDescriptor "(J)J" = some ⟨[.long], some .long⟩ := by decide +kernel
theorem pd_2 : parseMethodDescriptor "(J)V" = some ⟨[.long], none⟩ := by decide +kernel
theorem pd_3 : parseMethodDescriptor "(JII)V" = some ⟨[.long, .int, .int], none⟩ := by decide +kernel
theorem pd_4 : parseMethodDescriptor "(JJ)J" = some ⟨[.long, .long], some .long⟩ := by decide +kernel
theorem pd_5 : parseMethodDescriptor "(JJJJI)Z" = some ⟨[.long, .long, .long, .long, .int], some .boolean⟩ := by decide +kernel
theorem pn_0 : plainFor x = true := plainFor_of_name (by first | (simp [plainName, overriddenIn]; done) | decide +kernel)
theorem ef_0 (m : MethodId) (x0 : Int64) (x1 : Int64) (x2 : Int64) (x3 : Int64) (x4 : Int32) : entryFrame m #[(.long x0), (.long x1), (.long x2), (.long x3), (.int x4)] maxLocals = mkF m 0 #[.val (.long x0), .second, .val (.long x1), .second, .val (.long x2), .second, .val (.long x3), .second, .val (.int x4), .unset, .unset, .unset, .unset, .unset, .unset, .unset] [] := by first | (simp [entryFrame, mkF, argsToLocals, Value.category, maxLocals]; done) | rfl
theorem pn_1 : plainFor (⟨"java/lang/Math", "min", "(JJ)J"⟩ : MethodName) = true := Jvm.Free.JP.mathPlain rfl (by decide +kernel)
theorem ef_1 (m : MethodId) (x0 : Int64) (x1 : Int64) : entryFrame m #[(.long x0), (.long x1)] 4 = mkF m 0 #[.val (.long x0), .second, .val (.long x1), .second] [] := by first | (simp [entryFrame, mkF, argsToLocals, Value.category]; done) | rfl
theorem pn_2 : plainFor (⟨"com/example/log_to_queue/logtoqueue/queue/IndexEntries", "<init>", "(J)V"⟩ : MethodName) = true := plainFor_of_name (by first | (simp [plainName, overriddenIn]; done) | decide +kernel)
theorem ef_2 (m : MethodId) (x0 : Addr) (x1 : Int64) : entryFrame m #[(.ref x0), (.long x1)] 3 = mkF m 0 #[.val (.ref x0), .val (.long x1), .second] [] := by first | (simp [entryFrame, mkF, argsToLocals, Value.category]; done) | rfl
theorem pn_4 : plainFor (⟨"com/example/log_to_queue/logtoqueue/queue/IndexEntries", "add", "(JII)V"⟩ : MethodName) = true := plainFor_of_name (by first | (simp [plainName, overriddenIn]; done) | decide +kernel)
theorem ef_4 (m : MethodId) (x0 : Addr) (x1 : Int64) (x2 : Int32) (x3 : Int32) : entryFrame m #[(.ref x0), (.long x1), (.int x2), (.int x3)] 6 = mkF m 0 #[.val (.ref x0), .val (.long x1), .second, .val (.int x2), .val (.int x3), .unset] [] := by first | (simp [entryFrame, mkF, argsToLocals, Value.category]; done) | rfl
theorem pn_5 : plainFor (⟨"com/example/log_to_queue/logtoqueue/queue/IndexEntries", "logPosition", "(J)J"⟩ : MethodName) = true := plainFor_of_name (by first | (simp [plainName, overriddenIn]; done) | decide +kernel)
theorem ef_5 (m : MethodId) (x0 : Addr) (x1 : Int64) : entryFrame m #[(.ref x0), (.long x1)] 3 = mkF m 0 #[.val (.ref x0), .val (.long x1), .second] [] := by first | (simp [entryFrame, mkF, argsToLocals, Value.category]; done) | rfl
theorem own_all8 {P : Int8 → Prop} (h : ∀ n : Fin 256, P (.ofBitVec (.ofFin n))) (b : Int8) : P b := by
  have := h b.toBitVec.toFin
  simpa using this
theorem own_fin (x : Int32) (K : Nat) (h0 : 0 ≤ x.toInt) (h1 : x.toInt < K) : ∃ n : Nat, n < K ∧ x = Int32.ofInt (n : Int) :=
  ⟨x.toInt.toNat, by omega, by rw [Int.toNat_of_nonneg h0, Int32.ofInt_toInt]⟩
theorem own_lushr_nat (x : Int64) (q : Int32) (k : Nat) (hk : q.toBitVec.toNat % 64 = k) : (own_lushr x q).toBitVec.toNat = x.toBitVec.toNat / 2 ^ k := by
  show (x.toBitVec >>> ((q &&& 0x3f).toInt64.toBitVec % 64)).toNat = _
  rw [BitVec.ushiftRight_eq', BitVec.toNat_ushiftRight, Nat.shiftRight_eq_div_pow, BitVec.toNat_umod, (sm64 q k hk).1, BitVec.toNat_ofNat]
  congr 2
  have := (sm64 q k hk).2
  show k % 2 ^ 64 % 64 = k
  omega
theorem own_l0 (x : Int64) : x = 0 ↔ x.toBitVec.toNat = 0 := ⟨fun h => by subst h; rfl, fun h => Int64.toBitVec_inj.mp (BitVec.eq_of_toNat_eq h)⟩
theorem own_shsh (x : Int64) (a b c : Int32) (i j : Nat) (ha : a.toBitVec.toNat % 64 = i) (hb : b.toBitVec.toNat % 64 = j) (hc : c.toBitVec.toNat % 64 = i + j) : own_lushr (own_lushr x a) b = own_lushr x c := by
  apply Int64.toBitVec_inj.mp
  apply BitVec.eq_of_toNat_eq
  rw [own_lushr_nat _ b j hb, own_lushr_nat x a i ha, own_lushr_nat x c _ hc, Nat.div_div_eq_div_mul, Nat.pow_add]
theorem own_shz (x : Int64) (a b : Int32) (i j : Nat) (ha : a.toBitVec.toNat % 64 = i) (hb : b.toBitVec.toNat % 64 = j) (h : 64 ≤ i + j) : own_lushr (own_lushr x a) b = 0 := by
  rw [own_l0, own_lushr_nat _ b j hb, own_lushr_nat x a i ha, Nat.div_div_eq_div_mul, ← Nat.pow_add]
  exact Nat.div_eq_of_lt (Nat.lt_of_lt_of_le x.toBitVec.isLt (Nat.pow_le_pow_right (by decide) h))
theorem own_true {P : Prop} [Decidable P] (h : P) : ((if P then (1 : Int32) else (0 : Int32)) &&& 1) = 1 := by rw [if_pos h]; rfl
def own_f1 (x0 : Int64) (x1 : Int64) : Int64 := (if x1 < x0 then x1 else x0)
set_option maxRecDepth 65536 in
set_option maxHeartbeats 40000000 in
theorem met1 (l : Launch) (Z : State) (a0 : Array Value) (hw : ∀ d ∈ tables_1, d.before a0 Z = true) (x0 : Int64) (x1 : Int64) (h0 : Heap) :
    own_Met l Z (⟨"java/lang/Math", "min", "(JJ)J"⟩ : MethodName) jdk_29_method_70_code 4 (some .long) { frames := 0, cells := 0, slots := 0, locals := 0 } #[(.long x0), (.long x1)] h0 (own_Pure (.long (own_f1 x0 x1)) h0) := by
  refine own_met pn_1 ?_
  intro p e s m below meth c T0 X0 hx hby hml hown hZ e0 hret hlk hnm
  rw [ef_1 m x0 x1]
  show own_Fin _ _ _ _ _ _ _ (T0.setTop (mkF m 0 #[.val (.long x0), .second, .val (.long x1), .second] []))
  refine own_of (fun _ kk => XS.lloadN X0.here hx rfl (hb hby d1_0) rfl kk) ?_
  show own_Fin _ _ _ _ _ _ _ (T0.setTop (mkF m 1 #[.val (.long x0), .second, .val (.long x1), .second] [(.long x0)]))
  refine own_of (fun _ kk => XS.lloadN X0.here hx rfl (hb hby d1_1) rfl kk) ?_
  show own_Fin _ _ _ _ _ _ _ (T0.setTop (mkF m 2 #[.val (.long x0), .second, .val (.long x1), .second] [(.long x1), (.long x0)]))
  refine own_of (fun _ kk => XS.lcmp X0.here hx rfl (hb hby d1_2) rfl kk) ?_
  show own_Fin _ _ _ _ _ _ _ (T0.setTop (mkF m 3 #[.val (.long x0), .second, .val (.long x1), .second] [(.int (lcmpW x0 x1))]))
  suffices k1 : own_Fin _ _ _ _ _ _ _ (T0.setTop (mkF m 11 #[.val (.long x0), .second, .val (.long x1), .second] [(.long (if x1 < x0 then x1 else x0))])) by
    by_cases c3 : x1 < x0
    · refine own_of (fun _ kk => XS.ifYes X0.here hx rfl (pc0 := 3) (pc' := 10) rfl (hb hby d1_3) rfl ((if0 _ _).trans (tlt ((lw_gt _ _).mpr c3)).2.2.1) (by decide) (by decide) kk) ?_
      show own_Fin _ _ _ _ _ _ _ (T0.setTop (mkF m 10 #[.val (.long x0), .second, .val (.long x1), .second] []))
      refine own_of (fun _ kk => XS.lloadN X0.here hx rfl (hb hby d1_10) rfl kk) ?_
      show own_Fin _ _ _ _ _ _ _ (T0.setTop (mkF m 11 #[.val (.long x0), .second, .val (.long x1), .second] [(.long x1)]))
      simp only [if_pos c3] at k1 ⊢
      exact k1
    · refine own_of (fun _ kk => XS.ifNo X0.here hx rfl (hb hby d1_3) rfl ((if0 _ _).trans (flt (mt (lw_gt _ _).mp c3)).2.2.1) kk) ?_
      show own_Fin _ _ _ _ _ _ _ (T0.setTop (mkF m 6 #[.val (.long x0), .second, .val (.long x1), .second] []))
      refine own_of (fun _ kk => XS.lloadN X0.here hx rfl (hb hby d1_6) rfl kk) ?_
      show own_Fin _ _ _ _ _ _ _ (T0.setTop (mkF m 7 #[.val (.long x0), .second, .val (.long x1), .second] [(.long x0)]))
      refine own_of (fun _ kk => XS.goto X0.here hx rfl (pc0 := 7) (pc' := 11) rfl (hb hby d1_7) (by decide) (by decide) kk) ?_
      show own_Fin _ _ _ _ _ _ _ (T0.setTop (mkF m 11 #[.val (.long x0), .second, .val (.long x1), .second] [(.long x0)]))
      simp only [if_neg c3] at k1 ⊢
      exact k1
  show own_Fin _ _ _ _ _ _ _ (T0.setTop (mkF m 11 #[.val (.long x0), .second, .val (.long x1), .second] [(.long (if x1 < x0 then x1 else x0))]))
  exact own_retJ X0 hx hlk e0 hret (hb hby d1_11) (by decide) (by decide) ⟨by first | rfl | (simp only [own_f1]; done), rfl, rfl⟩
def own_Obj (Z : State) (h : Heap) (n0 : Nat) (o : Addr) (first : Int64) (len : Int32) (a1 a2 a3 : Addr) (f1 : Nat → Int64) (f2 f3 : Nat → Int32) : Prop :=
  Exa Z h o "com/example/log_to_queue/logtoqueue/queue/IndexEntries" ∧ Fld Z h o "com/example/log_to_queue/logtoqueue/queue/IndexEntries" "first" "J" (.long first) ∧ Fld Z h o "com/example/log_to_queue/logtoqueue/queue/IndexEntries" "length" "I" (.int len) ∧ Fld Z h o "com/example/log_to_queue/logtoqueue/queue/IndexEntries" "positions" "[J" (.ref a1) ∧ Fld Z h o "com/example/log_to_queue/logtoqueue/queue/IndexEntries" "sizes" "[I" (.ref a2) ∧ Fld Z h o "com/example/log_to_queue/logtoqueue/queue/IndexEntries" "tagFields" "[I" (.ref a3) ∧
  own_Arf Z h a1 .long 16 (fun j => .long (f1 j)) ∧ own_Arf Z h a2 .int 16 (fun j => .int (f2 j)) ∧ own_Arf Z h a3 .int 16 (fun j => .int (f3 j)) ∧
  (o ≠ a1 ∧ o ≠ a2 ∧ o ≠ a3 ∧ a1 ≠ a2 ∧ a1 ≠ a3 ∧ a2 ≠ a3) ∧ n0 ≤ o ∧ n0 ≤ a1 ∧ n0 ≤ a2 ∧ n0 ≤ a3
set_option maxRecDepth 65536 in
set_option maxHeartbeats 40000000 in
theorem met2 (l : Launch) (Z : State) (a0 : Array Value) (hw : ∀ d ∈ tables_1, d.before a0 Z = true) (x0 : Addr) (x1 : Int64) (h0 : Heap) (n0 : Nat) (Z0 : n0 ≤ h0.size) (E : Exa Z h0 x0 "com/example/log_to_queue/logtoqueue/queue/IndexEntries") (Ff : Fld Z h0 x0 "com/example/log_to_queue/logtoqueue/queue/IndexEntries" "first" "J" (.long (0 : Int64))) (Fl : Fld Z h0 x0 "com/example/log_to_queue/logtoqueue/queue/IndexEntries" "length" "I" (.int (0 : Int32))) (Fp : Fld Z h0 x0 "com/example/log_to_queue/logtoqueue/queue/IndexEntries" "positions" "[J" .null) (Fs : Fld Z h0 x0 "com/example/log_to_queue/logtoqueue/queue/IndexEntries" "sizes" "[I" .null) (Ft : Fld Z h0 x0 "com/example/log_to_queue/logtoqueue/queue/IndexEntries" "tagFields" "[I" .null) (go : n0 ≤ x0) :
    own_Met l Z (⟨"com/example/log_to_queue/logtoqueue/queue/IndexEntries", "<init>", "(J)V"⟩ : MethodName) prog_63_method_1_code 3 none { frames := 1, cells := 3, slots := 48, locals := 12 } #[(.ref x0), (.long x1)] h0 (fun v h L => v = none ∧ Fr n0 L ∧ n0 ≤ h.size ∧ ∃ a1 a2 a3, own_Obj Z h n0 x0 x1 0 a1 a2 a3 (fun _ => 0) (fun _ => 0) (fun _ => 0)) := by
  refine own_met pn_2 ?_
  intro p e s m below meth c T0 X0 hx hby hml hown hZ e0 hret hlk hnm
  rw [ef_2 m x0 x1]
  have N0 := Fr.nil n0
  show own_Fin _ _ _ _ _ _ _ (T0.setTop (mkF m 0 #[.val (.ref x0), .val (.long x1), .second] []))
  refine own_of (fun _ kk => XS.aloadN X0.here hx rfl (hb hby d2_0) rfl rfl kk) ?_
  show own_Fin _ _ _ _ _ _ _ (T0.setTop (mkF m 1 #[.val (.ref x0), .val (.long x1), .second] [(.ref x0)]))
  refine own_initO X0 hx hZ hown (hw _ (List.mem_of_getElem? (i := 11) rfl)) (hw _ (List.mem_of_getElem? (i := 12) rfl)) (hw _ (List.mem_of_getElem? (i := 13) rfl)) e0 (by rw [hml]; rfl) (hb hby d2_1) (by decide) (W := 0) (Nat.le_of_eq rfl) (by decide) ?_
  intro T1 X1 e1
  show own_Fin _ _ _ _ _ _ _ (T1.setTop (mkF m 4 #[.val (.ref x0), .val (.long x1), .second] []))
  refine own_of (fun _ kk => XS.aloadN X1.here hx rfl (hb hby d2_4) rfl rfl kk) ?_
  show own_Fin _ _ _ _ _ _ _ (T1.setTop (mkF m 5 #[.val (.ref x0), .val (.long x1), .second] [(.ref x0)]))
  refine own_of (fun _ kk => XS.bipush X1.here hx rfl (hb hby d2_5) kk) ?_
  show own_Fin _ _ _ _ _ _ _ (T1.setTop (mkF m 7 #[.val (.ref x0), .val (.long x1), .second] [(.int (16 : Int32)), (.ref x0)]))
  refine own_newP X1 hx hZ (hw _ (List.mem_of_getElem? (i := 14) rfl)) e1 (hb hby d2_7) (n := 16) (by decide) (cap := 16) (Nat.le_refl _) (by decide) (by decide) (by decide) ?_
  intro T2 h2 b2 X2 e2 E2 g2 A2
  have ne_x0_b2 : x0 ≠ b2 := Nat.ne_of_lt (by rw [g2]; exact E.lt)
  replace E := E.ext E2
  replace Ff := Ff.ext E2
  replace Fl := Fl.ext E2
  replace Fp := Fp.ext E2
  replace Fs := Fs.ext E2
  replace Ft := Ft.ext E2
  have Z2 : n0 ≤ h2.size := Nat.le_trans Z0 E2.1
  have ge_b2 : n0 ≤ b2 := by rw [g2]; exact Z0
  replace A2 : own_Arf Z h2 b2 .long 16 (fun _ => (.long (0 : Int64))) := A2
  show own_Fin _ _ _ _ _ _ _ (T2.setTop (mkF m 9 #[.val (.ref x0), .val (.long x1), .second] [(.ref b2), (.ref x0)]))
  refine own_putF X2 hx hZ hown (hw _ (List.mem_of_getElem? (i := 15) rfl)) e2 Fp E (Or.inl (hw _ (List.mem_of_getElem? (i := 16) rfl))) (hw _ (List.mem_of_getElem? (i := 6) rfl)) (ty := (.array .long)) (by decide) rfl rfl N0 go (hb hby d2_9) ?_
  intro T3 h3 l3 X3 N3 e3 W3
  have ZW3 : n0 ≤ h3.size := by rw [Wr.size W3]; exact Z2
  replace E := E.wr W3
  replace Ff := Ff.other W3 (Or.inr (slot_ne (Or.inr (hw _ (List.mem_of_getElem? (i := 23) rfl))) (Or.inl (hw _ (List.mem_of_getElem? (i := 16) rfl))) (by decide) (t := .long) (t' := (.array .long)) (by decide) (by decide)))
  replace Fl := Fl.other W3 (Or.inr (slot_ne (Or.inl (hw _ (List.mem_of_getElem? (i := 30) rfl))) (Or.inl (hw _ (List.mem_of_getElem? (i := 16) rfl))) (by decide) (t := .int) (t' := (.array .long)) (by decide) (by decide)))
  replace Fp := Fp.same W3
  replace Fs := Fs.other W3 (Or.inr (slot_ne (Or.inl (hw _ (List.mem_of_getElem? (i := 19) rfl))) (Or.inl (hw _ (List.mem_of_getElem? (i := 16) rfl))) (by decide) (t := (.array .int)) (t' := (.array .long)) (by decide) (by decide)))
  replace Ft := Ft.other W3 (Or.inr (slot_ne (Or.inl (hw _ (List.mem_of_getElem? (i := 21) rfl))) (Or.inl (hw _ (List.mem_of_getElem? (i := 16) rfl))) (by decide) (t := (.array .int)) (t' := (.array .long)) (by decide) (by decide)))
  replace A2 := A2.other W3 (Ne.symm ne_x0_b2)
  show own_Fin _ _ _ _ _ _ _ (T3.setTop (mkF m 12 #[.val (.ref x0), .val (.long x1), .second] []))
  refine own_of (fun _ kk => XS.aloadN X3.here hx rfl (hb hby d2_12) rfl rfl kk) ?_
  show own_Fin _ _ _ _ _ _ _ (T3.setTop (mkF m 13 #[.val (.ref x0), .val (.long x1), .second] [(.ref x0)]))
  refine own_of (fun _ kk => XS.bipush X3.here hx rfl (hb hby d2_13) kk) ?_
  show own_Fin _ _ _ _ _ _ _ (T3.setTop (mkF m 15 #[.val (.ref x0), .val (.long x1), .second] [(.int (16 : Int32)), (.ref x0)]))
  refine own_newP X3 hx hZ (hw _ (List.mem_of_getElem? (i := 17) rfl)) e3 (hb hby d2_15) (n := 16) (by decide) (cap := 16) (Nat.le_refl _) (by decide) (by decide) (by decide) ?_
  intro T4 h4 b4 X4 e4 E4 g4 A4
  have ne_x0_b4 : x0 ≠ b4 := Nat.ne_of_lt (by rw [g4]; exact E.lt)
  have ne_b2_b4 : b2 ≠ b4 := Nat.ne_of_lt (by rw [g4]; exact A2.lt)
  replace E := E.ext E4
  replace Ff := Ff.ext E4
  replace Fl := Fl.ext E4
  replace Fp := Fp.ext E4
  replace Fs := Fs.ext E4
  replace Ft := Ft.ext E4
  replace A2 := A2.ext E4
  have Z4 : n0 ≤ h4.size := Nat.le_trans ZW3 E4.1
  have ge_b4 : n0 ≤ b4 := by rw [g4]; exact ZW3
  replace A4 : own_Arf Z h4 b4 .int 16 (fun _ => (.int (0 : Int32))) := A4
  show own_Fin _ _ _ _ _ _ _ (T4.setTop (mkF m 17 #[.val (.ref x0), .val (.long x1), .second] [(.ref b4), (.ref x0)]))
  refine own_putF X4 hx hZ hown (hw _ (List.mem_of_getElem? (i := 18) rfl)) e4 Fs E (Or.inl (hw _ (List.mem_of_getElem? (i := 19) rfl))) (hw _ (List.mem_of_getElem? (i := 6) rfl)) (ty := (.array .int)) (by decide) rfl rfl N3 go (hb hby d2_17) ?_
  intro T5 h5 l5 X5 N5 e5 W5
  have ZW5 : n0 ≤ h5.size := by rw [Wr.size W5]; exact Z4
  replace E := E.wr W5
  replace Ff := Ff.other W5 (Or.inr (slot_ne (Or.inr (hw _ (List.mem_of_getElem? (i := 23) rfl))) (Or.inl (hw _ (List.mem_of_getElem? (i := 19) rfl))) (by decide) (t := .long) (t' := (.array .int)) (by decide) (by decide)))
  replace Fl := Fl.other W5 (Or.inr (slot_ne (Or.inl (hw _ (List.mem_of_getElem? (i := 30) rfl))) (Or.inl (hw _ (List.mem_of_getElem? (i := 19) rfl))) (by decide) (t := .int) (t' := (.array .int)) (by decide) (by decide)))
  replace Fp := Fp.other W5 (Or.inr (slot_ne (Or.inl (hw _ (List.mem_of_getElem? (i := 16) rfl))) (Or.inl (hw _ (List.mem_of_getElem? (i := 19) rfl))) (by decide) (t := (.array .long)) (t' := (.array .int)) (by decide) (by decide)))
  replace Fs := Fs.same W5
  replace Ft := Ft.other W5 (Or.inr (slot_ne (Or.inl (hw _ (List.mem_of_getElem? (i := 21) rfl))) (Or.inl (hw _ (List.mem_of_getElem? (i := 19) rfl))) (by decide) (t := (.array .int)) (t' := (.array .int)) (by decide) (by decide)))
  replace A2 := A2.other W5 (Ne.symm ne_x0_b2)
  replace A4 := A4.other W5 (Ne.symm ne_x0_b4)
  show own_Fin _ _ _ _ _ _ _ (T5.setTop (mkF m 20 #[.val (.ref x0), .val (.long x1), .second] []))
  refine own_of (fun _ kk => XS.aloadN X5.here hx rfl (hb hby d2_20) rfl rfl kk) ?_
  show own_Fin _ _ _ _ _ _ _ (T5.setTop (mkF m 21 #[.val (.ref x0), .val (.long x1), .second] [(.ref x0)]))
  refine own_of (fun _ kk => XS.bipush X5.here hx rfl (hb hby d2_21) kk) ?_
  show own_Fin _ _ _ _ _ _ _ (T5.setTop (mkF m 23 #[.val (.ref x0), .val (.long x1), .second] [(.int (16 : Int32)), (.ref x0)]))
  refine own_newP X5 hx hZ (hw _ (List.mem_of_getElem? (i := 17) rfl)) e5 (hb hby d2_23) (n := 16) (by decide) (cap := 16) (Nat.le_refl _) (by decide) (by decide) (by decide) ?_
  intro T6 h6 b6 X6 e6 E6 g6 A6
  have ne_x0_b6 : x0 ≠ b6 := Nat.ne_of_lt (by rw [g6]; exact E.lt)
  have ne_b2_b6 : b2 ≠ b6 := Nat.ne_of_lt (by rw [g6]; exact A2.lt)
  have ne_b4_b6 : b4 ≠ b6 := Nat.ne_of_lt (by rw [g6]; exact A4.lt)
  replace E := E.ext E6
  replace Ff := Ff.ext E6
  replace Fl := Fl.ext E6
  replace Fp := Fp.ext E6
  replace Fs := Fs.ext E6
  replace Ft := Ft.ext E6
  replace A2 := A2.ext E6
  replace A4 := A4.ext E6
  have Z6 : n0 ≤ h6.size := Nat.le_trans ZW5 E6.1
  have ge_b6 : n0 ≤ b6 := by rw [g6]; exact ZW5
  replace A6 : own_Arf Z h6 b6 .int 16 (fun _ => (.int (0 : Int32))) := A6
  show own_Fin _ _ _ _ _ _ _ (T6.setTop (mkF m 25 #[.val (.ref x0), .val (.long x1), .second] [(.ref b6), (.ref x0)]))
  refine own_putF X6 hx hZ hown (hw _ (List.mem_of_getElem? (i := 20) rfl)) e6 Ft E (Or.inl (hw _ (List.mem_of_getElem? (i := 21) rfl))) (hw _ (List.mem_of_getElem? (i := 6) rfl)) (ty := (.array .int)) (by decide) rfl rfl N5 go (hb hby d2_25) ?_
  intro T7 h7 l7 X7 N7 e7 W7
  have ZW7 : n0 ≤ h7.size := by rw [Wr.size W7]; exact Z6
  replace E := E.wr W7
  replace Ff := Ff.other W7 (Or.inr (slot_ne (Or.inr (hw _ (List.mem_of_getElem? (i := 23) rfl))) (Or.inl (hw _ (List.mem_of_getElem? (i := 21) rfl))) (by decide) (t := .long) (t' := (.array .int)) (by decide) (by decide)))
  replace Fl := Fl.other W7 (Or.inr (slot_ne (Or.inl (hw _ (List.mem_of_getElem? (i := 30) rfl))) (Or.inl (hw _ (List.mem_of_getElem? (i := 21) rfl))) (by decide) (t := .int) (t' := (.array .int)) (by decide) (by decide)))
  replace Fp := Fp.other W7 (Or.inr (slot_ne (Or.inl (hw _ (List.mem_of_getElem? (i := 16) rfl))) (Or.inl (hw _ (List.mem_of_getElem? (i := 21) rfl))) (by decide) (t := (.array .long)) (t' := (.array .int)) (by decide) (by decide)))
  replace Fs := Fs.other W7 (Or.inr (slot_ne (Or.inl (hw _ (List.mem_of_getElem? (i := 19) rfl))) (Or.inl (hw _ (List.mem_of_getElem? (i := 21) rfl))) (by decide) (t := (.array .int)) (t' := (.array .int)) (by decide) (by decide)))
  replace Ft := Ft.same W7
  replace A2 := A2.other W7 (Ne.symm ne_x0_b2)
  replace A4 := A4.other W7 (Ne.symm ne_x0_b4)
  replace A6 := A6.other W7 (Ne.symm ne_x0_b6)
  show own_Fin _ _ _ _ _ _ _ (T7.setTop (mkF m 28 #[.val (.ref x0), .val (.long x1), .second] []))
  refine own_of (fun _ kk => XS.aloadN X7.here hx rfl (hb hby d2_28) rfl rfl kk) ?_
  show own_Fin _ _ _ _ _ _ _ (T7.setTop (mkF m 29 #[.val (.ref x0), .val (.long x1), .second] [(.ref x0)]))
  refine own_of (fun _ kk => XS.lloadN X7.here hx rfl (hb hby d2_29) rfl kk) ?_
  show own_Fin _ _ _ _ _ _ _ (T7.setTop (mkF m 30 #[.val (.ref x0), .val (.long x1), .second] [(.long x1), (.ref x0)]))
  refine own_putF X7 hx hZ hown (hw _ (List.mem_of_getElem? (i := 22) rfl)) e7 Ff E (Or.inr ⟨(hw _ (List.mem_of_getElem? (i := 23) rfl)), rfl, hnm⟩) (hw _ (List.mem_of_getElem? (i := 6) rfl)) (ty := .long) (by decide) rfl rfl N7 go (hb hby d2_30) ?_
  intro T8 h8 l8 X8 N8 e8 W8
  have ZW8 : n0 ≤ h8.size := by rw [Wr.size W8]; exact ZW7
  replace E := E.wr W8
  replace Ff := Ff.same W8
  replace Fl := Fl.other W8 (Or.inr (slot_ne (Or.inl (hw _ (List.mem_of_getElem? (i := 30) rfl))) (Or.inr (hw _ (List.mem_of_getElem? (i := 23) rfl))) (by decide) (t := .int) (t' := .long) (by decide) (by decide)))
  replace Fp := Fp.other W8 (Or.inr (slot_ne (Or.inl (hw _ (List.mem_of_getElem? (i := 16) rfl))) (Or.inr (hw _ (List.mem_of_getElem? (i := 23) rfl))) (by decide) (t := (.array .long)) (t' := .long) (by decide) (by decide)))
  replace Fs := Fs.other W8 (Or.inr (slot_ne (Or.inl (hw _ (List.mem_of_getElem? (i := 19) rfl))) (Or.inr (hw _ (List.mem_of_getElem? (i := 23) rfl))) (by decide) (t := (.array .int)) (t' := .long) (by decide) (by decide)))
  replace Ft := Ft.other W8 (Or.inr (slot_ne (Or.inl (hw _ (List.mem_of_getElem? (i := 21) rfl))) (Or.inr (hw _ (List.mem_of_getElem? (i := 23) rfl))) (by decide) (t := (.array .int)) (t' := .long) (by decide) (by decide)))
  replace A2 := A2.other W8 (Ne.symm ne_x0_b2)
  replace A4 := A4.other W8 (Ne.symm ne_x0_b4)
  replace A6 := A6.other W8 (Ne.symm ne_x0_b6)
  show own_Fin _ _ _ _ _ _ _ (T8.setTop (mkF m 33 #[.val (.ref x0), .val (.long x1), .second] []))
  exact own_retV X8 hx hlk e8 hret (hb hby d2_33) (by decide) (by decide) ⟨rfl, N8, ZW8, b2, b4, b6, E, Ff, Fl, Fp, Fs, Ft, A2, A4, A6, ⟨ne_x0_b2, ne_x0_b4, ne_x0_b6, ne_b2_b4, ne_b2_b6, ne_b4_b6⟩, go, ge_b2, ge_b4, ge_b6⟩
theorem own_ne16 {len : Int32} {i : Nat} (hl : len.toInt = i) (hi : i < 16) : ¬ len = (16 : Int32) := fun e => by
  subst e
  have : (16 : Int32).toInt = 16 := by decide
  omega
set_option maxRecDepth 65536 in
set_option maxHeartbeats 40000000 in
theorem met4 (l : Launch) (Z : State) (a0 : Array Value) (hw : ∀ d ∈ tables_1, d.before a0 Z = true) (x0 : Addr) (x1 : Int64) (x2 : Int32) (x3 : Int32) (first : Int64) (len : Int32) (a1 : Addr) (a2 : Addr) (a3 : Addr) (f1 : Nat → Int64) (f2 : Nat → Int32) (f3 : Nat → Int32) (i : Nat) (h0 : Heap) (n0 : Nat) (Z0 : n0 ≤ h0.size) (O : own_Obj Z h0 n0 x0 first len a1 a2 a3 f1 f2 f3) (hl : len.toInt = i) (hi : i < 16) :
    own_Met l Z (⟨"com/example/log_to_queue/logtoqueue/queue/IndexEntries", "add", "(JII)V"⟩ : MethodName) prog_63_method_3_code 6 none { frames := 0, cells := 0, slots := 0, locals := 0 } #[(.ref x0), (.long x1), (.int x2), (.int x3)] h0 (fun v h L => v = none ∧ Fr n0 L ∧ n0 ≤ h.size ∧ own_Obj Z h n0 x0 first (len + 1) a1 a2 a3 (fun j => if j = i then x1 else f1 j) (fun j => if j = i then x2 else f2 j) (fun j => if j = i then x3 else f3 j)) := by
  refine own_met pn_4 ?_
  intro p e s m below meth c T0 X0 hx hby hml hown hZ e0 hret hlk hnm
  rw [ef_4 m x0 x1 x2 x3]
  have N0 := Fr.nil n0
  obtain ⟨E, Ff, Fl, Fp, Fs, Ft, A1, A2, A3, ⟨ne1, ne2, ne3, ne4, ne5, ne6⟩, go, ga1, ga2, ga3⟩ := O
  show own_Fin _ _ _ _ _ _ _ (T0.setTop (mkF m 0 #[.val (.ref x0), .val (.long x1), .second, .val (.int x2), .val (.int x3), .unset] []))
  refine own_of (fun _ kk => XS.aloadN X0.here hx rfl (hb hby d4_0) rfl rfl kk) ?_
  show own_Fin _ _ _ _ _ _ _ (T0.setTop (mkF m 1 #[.val (.ref x0), .val (.long x1), .second, .val (.int x2), .val (.int x3), .unset] [(.ref x0)]))
  refine own_getF X0 hx hZ hown (hw _ (List.mem_of_getElem? (i := 29) rfl)) e0 Fl (hb hby d4_1) ?_
  intro T1 X1 e1
  show own_Fin _ _ _ _ _ _ _ (T1.setTop (mkF m 4 #[.val (.ref x0), .val (.long x1), .second, .val (.int x2), .val (.int x3), .unset] [(.int len)]))
  refine own_of (fun _ kk => XS.aloadN X1.here hx rfl (hb hby d4_4) rfl rfl kk) ?_
  show own_Fin _ _ _ _ _ _ _ (T1.setTop (mkF m 5 #[.val (.ref x0), .val (.long x1), .second, .val (.int x2), .val (.int x3), .unset] [(.ref x0), (.int len)]))
  refine own_getF X1 hx hZ hown (hw _ (List.mem_of_getElem? (i := 15) rfl)) e1 Fp (hb hby d4_5) ?_
  intro T2 X2 e2
  show own_Fin _ _ _ _ _ _ _ (T2.setTop (mkF m 8 #[.val (.ref x0), .val (.long x1), .second, .val (.int x2), .val (.int x3), .unset] [(.ref a1), (.int len)]))
  refine own_arraylength X2 hx hZ e2 A1 (z := (16 : Int32)) (by decide) (hb hby d4_8) ?_
  show own_Fin _ _ _ _ _ _ _ (T2.setTop (mkF m 9 #[.val (.ref x0), .val (.long x1), .second, .val (.int x2), .val (.int x3), .unset] [(.int (16 : Int32)), (.int len)]))
  refine own_of (fun _ kk => XS.icmpYes X2.here hx rfl (pc0 := 9) (pc' := 69) rfl (hb hby d4_9) rfl (feq (own_ne16 hl hi)).2 (by decide) (by decide) kk) ?_
  show own_Fin _ _ _ _ _ _ _ (T2.setTop (mkF m 69 #[.val (.ref x0), .val (.long x1), .second, .val (.int x2), .val (.int x3), .unset] []))
  refine own_of (fun _ kk => XS.aloadN X2.here hx rfl (hb hby d4_69) rfl rfl kk) ?_
  show own_Fin _ _ _ _ _ _ _ (T2.setTop (mkF m 70 #[.val (.ref x0), .val (.long x1), .second, .val (.int x2), .val (.int x3), .unset] [(.ref x0)]))
  refine own_getF X2 hx hZ hown (hw _ (List.mem_of_getElem? (i := 15) rfl)) e2 Fp (hb hby d4_70) ?_
  intro T3 X3 e3
  show own_Fin _ _ _ _ _ _ _ (T3.setTop (mkF m 73 #[.val (.ref x0), .val (.long x1), .second, .val (.int x2), .val (.int x3), .unset] [(.ref a1)]))
  refine own_of (fun _ kk => XS.aloadN X3.here hx rfl (hb hby d4_73) rfl rfl kk) ?_
  show own_Fin _ _ _ _ _ _ _ (T3.setTop (mkF m 74 #[.val (.ref x0), .val (.long x1), .second, .val (.int x2), .val (.int x3), .unset] [(.ref x0), (.ref a1)]))
  refine own_getF X3 hx hZ hown (hw _ (List.mem_of_getElem? (i := 29) rfl)) e3 Fl (hb hby d4_74) ?_
  intro T4 X4 e4
  show own_Fin _ _ _ _ _ _ _ (T4.setTop (mkF m 77 #[.val (.ref x0), .val (.long x1), .second, .val (.int x2), .val (.int x3), .unset] [(.int len), (.ref a1)]))
  refine own_of (fun _ kk => XS.lloadN X4.here hx rfl (hb hby d4_77) rfl kk) ?_
  show own_Fin _ _ _ _ _ _ _ (T4.setTop (mkF m 78 #[.val (.ref x0), .val (.long x1), .second, .val (.int x2), .val (.int x3), .unset] [(.long x1), (.int len), (.ref a1)]))
  refine own_lastore X4 hx hZ e4 A1 N0 ga1 (i := i) hl hi (hb hby d4_78) ?_
  intro T5 h5 l5 X5 N5 e5 W5 A5
  replace A5 : own_Arf Z h5 a1 .long 16 (fun j => if j = i then (.long x1) else (fun j => .long (f1 j)) j) := A5
  have ZW5 : n0 ≤ h5.size := by rw [Wr.size W5]; exact Z0
  replace E := E.wr W5
  replace Ff := Ff.other W5 (Or.inl ne1)
  replace Fl := Fl.other W5 (Or.inl ne1)
  replace Fp := Fp.other W5 (Or.inl ne1)
  replace Fs := Fs.other W5 (Or.inl ne1)
  replace Ft := Ft.other W5 (Or.inl ne1)
  replace A2 := A2.other W5 (Ne.symm ne4)
  replace A3 := A3.other W5 (Ne.symm ne5)
  show own_Fin _ _ _ _ _ _ _ (T5.setTop (mkF m 79 #[.val (.ref x0), .val (.long x1), .second, .val (.int x2), .val (.int x3), .unset] []))
  refine own_of (fun _ kk => XS.aloadN X5.here hx rfl (hb hby d4_79) rfl rfl kk) ?_
  show own_Fin _ _ _ _ _ _ _ (T5.setTop (mkF m 80 #[.val (.ref x0), .val (.long x1), .second, .val (.int x2), .val (.int x3), .unset] [(.ref x0)]))
  refine own_getF X5 hx hZ hown (hw _ (List.mem_of_getElem? (i := 18) rfl)) e5 Fs (hb hby d4_80) ?_
  intro T6 X6 e6
  show own_Fin _ _ _ _ _ _ _ (T6.setTop (mkF m 83 #[.val (.ref x0), .val (.long x1), .second, .val (.int x2), .val (.int x3), .unset] [(.ref a2)]))
  refine own_of (fun _ kk => XS.aloadN X6.here hx rfl (hb hby d4_83) rfl rfl kk) ?_
  show own_Fin _ _ _ _ _ _ _ (T6.setTop (mkF m 84 #[.val (.ref x0), .val (.long x1), .second, .val (.int x2), .val (.int x3), .unset] [(.ref x0), (.ref a2)]))
  refine own_getF X6 hx hZ hown (hw _ (List.mem_of_getElem? (i := 29) rfl)) e6 Fl (hb hby d4_84) ?_
  intro T7 X7 e7
  show own_Fin _ _ _ _ _ _ _ (T7.setTop (mkF m 87 #[.val (.ref x0), .val (.long x1), .second, .val (.int x2), .val (.int x3), .unset] [(.int len), (.ref a2)]))
  refine own_of (fun _ kk => XS.iloadN X7.here hx rfl (hb hby d4_87) rfl kk) ?_
  show own_Fin _ _ _ _ _ _ _ (T7.setTop (mkF m 88 #[.val (.ref x0), .val (.long x1), .second, .val (.int x2), .val (.int x3), .unset] [(.int x2), (.int len), (.ref a2)]))
  refine own_iastore X7 hx hZ e7 A2 N5 ga2 (i := i) hl hi (hb hby d4_88) ?_
  intro T8 h8 l8 X8 N8 e8 W8 A8
  replace A8 : own_Arf Z h8 a2 .int 16 (fun j => if j = i then (.int x2) else (fun j => .int (f2 j)) j) := A8
  have ZW8 : n0 ≤ h8.size := by rw [Wr.size W8]; exact ZW5
  replace E := E.wr W8
  replace Ff := Ff.other W8 (Or.inl ne2)
  replace Fl := Fl.other W8 (Or.inl ne2)
  replace Fp := Fp.other W8 (Or.inl ne2)
  replace Fs := Fs.other W8 (Or.inl ne2)
  replace Ft := Ft.other W8 (Or.inl ne2)
  replace A5 := A5.other W8 ne4
  replace A3 := A3.other W8 (Ne.symm ne6)
  show own_Fin _ _ _ _ _ _ _ (T8.setTop (mkF m 89 #[.val (.ref x0), .val (.long x1), .second, .val (.int x2), .val (.int x3), .unset] []))
  refine own_of (fun _ kk => XS.aloadN X8.here hx rfl (hb hby d4_89) rfl rfl kk) ?_
  show own_Fin _ _ _ _ _ _ _ (T8.setTop (mkF m 90 #[.val (.ref x0), .val (.long x1), .second, .val (.int x2), .val (.int x3), .unset] [(.ref x0)]))
  refine own_getF X8 hx hZ hown (hw _ (List.mem_of_getElem? (i := 20) rfl)) e8 Ft (hb hby d4_90) ?_
  intro T9 X9 e9
  show own_Fin _ _ _ _ _ _ _ (T9.setTop (mkF m 93 #[.val (.ref x0), .val (.long x1), .second, .val (.int x2), .val (.int x3), .unset] [(.ref a3)]))
  refine own_of (fun _ kk => XS.aloadN X9.here hx rfl (hb hby d4_93) rfl rfl kk) ?_
  show own_Fin _ _ _ _ _ _ _ (T9.setTop (mkF m 94 #[.val (.ref x0), .val (.long x1), .second, .val (.int x2), .val (.int x3), .unset] [(.ref x0), (.ref a3)]))
  refine own_getF X9 hx hZ hown (hw _ (List.mem_of_getElem? (i := 29) rfl)) e9 Fl (hb hby d4_94) ?_
  intro T10 X10 e10
  show own_Fin _ _ _ _ _ _ _ (T10.setTop (mkF m 97 #[.val (.ref x0), .val (.long x1), .second, .val (.int x2), .val (.int x3), .unset] [(.int len), (.ref a3)]))
  refine own_of (fun _ kk => XS.iload X10.here hx rfl (hb hby d4_97) rfl kk) ?_
  show own_Fin _ _ _ _ _ _ _ (T10.setTop (mkF m 99 #[.val (.ref x0), .val (.long x1), .second, .val (.int x2), .val (.int x3), .unset] [(.int x3), (.int len), (.ref a3)]))
  refine own_iastore X10 hx hZ e10 A3 N8 ga3 (i := i) hl hi (hb hby d4_99) ?_
  intro T11 h11 l11 X11 N11 e11 W11 A11
  replace A11 : own_Arf Z h11 a3 .int 16 (fun j => if j = i then (.int x3) else (fun j => .int (f3 j)) j) := A11
  have ZW11 : n0 ≤ h11.size := by rw [Wr.size W11]; exact ZW8
  replace E := E.wr W11
  replace Ff := Ff.other W11 (Or.inl ne3)
  replace Fl := Fl.other W11 (Or.inl ne3)
  replace Fp := Fp.other W11 (Or.inl ne3)
  replace Fs := Fs.other W11 (Or.inl ne3)
  replace Ft := Ft.other W11 (Or.inl ne3)
  replace A5 := A5.other W11 ne5
  replace A8 := A8.other W11 ne6
  show own_Fin _ _ _ _ _ _ _ (T11.setTop (mkF m 100 #[.val (.ref x0), .val (.long x1), .second, .val (.int x2), .val (.int x3), .unset] []))
  refine own_of (fun _ kk => XS.aloadN X11.here hx rfl (hb hby d4_100) rfl rfl kk) ?_
  show own_Fin _ _ _ _ _ _ _ (T11.setTop (mkF m 101 #[.val (.ref x0), .val (.long x1), .second, .val (.int x2), .val (.int x3), .unset] [(.ref x0)]))
  refine own_of (fun _ kk => XS.dup X11.here hx rfl (hb hby d4_101) rfl rfl kk) ?_
  show own_Fin _ _ _ _ _ _ _ (T11.setTop (mkF m 102 #[.val (.ref x0), .val (.long x1), .second, .val (.int x2), .val (.int x3), .unset] [(.ref x0), (.ref x0)]))
  refine own_getF X11 hx hZ hown (hw _ (List.mem_of_getElem? (i := 29) rfl)) e11 Fl (hb hby d4_102) ?_
  intro T12 X12 e12
  show own_Fin _ _ _ _ _ _ _ (T12.setTop (mkF m 105 #[.val (.ref x0), .val (.long x1), .second, .val (.int x2), .val (.int x3), .unset] [(.int len), (.ref x0)]))
  refine own_of (fun _ kk => XS.iconst X12.here hx rfl (hb hby d4_105) kk) ?_
  show own_Fin _ _ _ _ _ _ _ (T12.setTop (mkF m 106 #[.val (.ref x0), .val (.long x1), .second, .val (.int x2), .val (.int x3), .unset] [(.int (1 : Int32)), (.int len), (.ref x0)]))
  refine own_of (fun _ kk => XS.iadd X12.here hx rfl (hb hby d4_106) rfl kk) ?_
  show own_Fin _ _ _ _ _ _ _ (T12.setTop (mkF m 107 #[.val (.ref x0), .val (.long x1), .second, .val (.int x2), .val (.int x3), .unset] [(.int (len + (1 : Int32))), (.ref x0)]))
  refine own_putF X12 hx hZ hown (hw _ (List.mem_of_getElem? (i := 29) rfl)) e12 Fl E (Or.inl (hw _ (List.mem_of_getElem? (i := 30) rfl))) (hw _ (List.mem_of_getElem? (i := 6) rfl)) (ty := .int) (by decide) rfl rfl N11 go (hb hby d4_107) ?_
  intro T13 h13 l13 X13 N13 e13 W13
  have ZW13 : n0 ≤ h13.size := by rw [Wr.size W13]; exact ZW11
  replace E := E.wr W13
  replace Ff := Ff.other W13 (Or.inr (slot_ne (Or.inr (hw _ (List.mem_of_getElem? (i := 23) rfl))) (Or.inl (hw _ (List.mem_of_getElem? (i := 30) rfl))) (by decide) (t := .long) (t' := .int) (by decide) (by decide)))
  replace Fl := Fl.same W13
  replace Fp := Fp.other W13 (Or.inr (slot_ne (Or.inl (hw _ (List.mem_of_getElem? (i := 16) rfl))) (Or.inl (hw _ (List.mem_of_getElem? (i := 30) rfl))) (by decide) (t := (.array .long)) (t' := .int) (by decide) (by decide)))
  replace Fs := Fs.other W13 (Or.inr (slot_ne (Or.inl (hw _ (List.mem_of_getElem? (i := 19) rfl))) (Or.inl (hw _ (List.mem_of_getElem? (i := 30) rfl))) (by decide) (t := (.array .int)) (t' := .int) (by decide) (by decide)))
  replace Ft := Ft.other W13 (Or.inr (slot_ne (Or.inl (hw _ (List.mem_of_getElem? (i := 21) rfl))) (Or.inl (hw _ (List.mem_of_getElem? (i := 30) rfl))) (by decide) (t := (.array .int)) (t' := .int) (by decide) (by decide)))
  replace A5 := A5.other W13 (Ne.symm ne1)
  replace A8 := A8.other W13 (Ne.symm ne2)
  replace A11 := A11.other W13 (Ne.symm ne3)
  show own_Fin _ _ _ _ _ _ _ (T13.setTop (mkF m 110 #[.val (.ref x0), .val (.long x1), .second, .val (.int x2), .val (.int x3), .unset] []))
  exact own_retV X13 hx hlk e13 hret (hb hby d4_110) (by decide) (by decide) ⟨rfl, N13, ZW13, E, Ff, Fl, Fp, Fs, Ft, (A5.congr fun j _ => by dsimp only; split <;> rfl), (A8.congr fun j _ => by dsimp only; split <;> rfl), (A11.congr fun j _ => by dsimp only; split <;> rfl), ⟨ne1, ne2, ne3, ne4, ne5, ne6⟩, go, ga1, ga2, ga3⟩
set_option maxRecDepth 65536 in
set_option maxHeartbeats 40000000 in
theorem met5 (l : Launch) (Z : State) (a0 : Array Value) (hw : ∀ d ∈ tables_1, d.before a0 Z = true) (x0 : Addr) (x1 : Int64) (first : Int64) (len : Int32) (a1 : Addr) (a2 : Addr) (a3 : Addr) (f1 : Nat → Int64) (f2 : Nat → Int32) (f3 : Nat → Int32) (i : Nat) (r : Int64) (h0 : Heap) (n0 : Nat) (Z0 : n0 ≤ h0.size) (O : own_Obj Z h0 n0 x0 first len a1 a2 a3 f1 f2 f3) (hj : ((x1 - first).toInt32).toInt = i) (hi : i < 16) (hv : f1 i = r) :
    own_Met l Z (⟨"com/example/log_to_queue/logtoqueue/queue/IndexEntries", "logPosition", "(J)J"⟩ : MethodName) prog_63_method_5_code 3 (some .long) { frames := 0, cells := 0, slots := 0, locals := 0 } #[(.ref x0), (.long x1)] h0 (fun v h L => own_Pure (.long r) h0 v h L) := by
  refine own_met pn_5 ?_
  intro p e s m below meth c T0 X0 hx hby hml hown hZ e0 hret hlk hnm
  rw [ef_5 m x0 x1]
  have N0 := Fr.nil n0
  obtain ⟨E, Ff, Fl, Fp, Fs, Ft, A1, A2, A3, ⟨ne1, ne2, ne3, ne4, ne5, ne6⟩, go, ga1, ga2, ga3⟩ := O
  show own_Fin _ _ _ _ _ _ _ (T0.setTop (mkF m 0 #[.val (.ref x0), .val (.long x1), .second] []))
  refine own_of (fun _ kk => XS.aloadN X0.here hx rfl (hb hby d5_0) rfl rfl kk) ?_
  show own_Fin _ _ _ _ _ _ _ (T0.setTop (mkF m 1 #[.val (.ref x0), .val (.long x1), .second] [(.ref x0)]))
  refine own_getF X0 hx hZ hown (hw _ (List.mem_of_getElem? (i := 15) rfl)) e0 Fp (hb hby d5_1) ?_
  intro T1 X1 e1
  show own_Fin _ _ _ _ _ _ _ (T1.setTop (mkF m 4 #[.val (.ref x0), .val (.long x1), .second] [(.ref a1)]))
  refine own_of (fun _ kk => XS.lloadN X1.here hx rfl (hb hby d5_4) rfl kk) ?_
  show own_Fin _ _ _ _ _ _ _ (T1.setTop (mkF m 5 #[.val (.ref x0), .val (.long x1), .second] [(.long x1), (.ref a1)]))
  refine own_of (fun _ kk => XS.aloadN X1.here hx rfl (hb hby d5_5) rfl rfl kk) ?_
  show own_Fin _ _ _ _ _ _ _ (T1.setTop (mkF m 6 #[.val (.ref x0), .val (.long x1), .second] [(.ref x0), (.long x1), (.ref a1)]))
  refine own_getF X1 hx hZ hown (hw _ (List.mem_of_getElem? (i := 22) rfl)) e1 Ff (hb hby d5_6) ?_
  intro T2 X2 e2
  show own_Fin _ _ _ _ _ _ _ (T2.setTop (mkF m 9 #[.val (.ref x0), .val (.long x1), .second] [(.long first), (.long x1), (.ref a1)]))
  refine own_of (fun _ kk => XS.lsub X2.here hx rfl (hb hby d5_9) rfl kk) ?_
  show own_Fin _ _ _ _ _ _ _ (T2.setTop (mkF m 10 #[.val (.ref x0), .val (.long x1), .second] [(.long (x1 - first)), (.ref a1)]))
  refine own_of (fun _ kk => XS.l2i X2.here hx rfl (hb hby d5_10) rfl kk) ?_
  show own_Fin _ _ _ _ _ _ _ (T2.setTop (mkF m 11 #[.val (.ref x0), .val (.long x1), .second] [(.int (x1 - first).toInt32), (.ref a1)]))
  refine own_laload X2 hx hZ e2 A1 (i := i) hj hi (v := (.long r)) (by rw [hv]) (hb hby d5_11) ?_
  show own_Fin _ _ _ _ _ _ _ (T2.setTop (mkF m 12 #[.val (.ref x0), .val (.long x1), .second] [(.long r)]))
  exact own_retJ X2 hx hlk e2 hret (hb hby d5_12) (by decide) (by decide) ⟨rfl, rfl, rfl⟩
def own_n (x4 : Int32) : Int32 := ((1 : Int32) + ((own_iushr x4 (8 : Int32)) % (3 : Int32)))
def own_k (x4 : Int32) : Int32 := (x4 &&& (255 : Int32)) % (own_n x4)
theorem own_nr (x4 : Int32) : 1 ≤ (own_n x4).toInt ∧ (own_n x4).toInt ≤ 3 := by
  have h := c_iushr x4 8 8 (by decide) (by decide)
  change (own_iushr x4 8).toInt = _ at h
  have h1 : 0 ≤ (own_iushr x4 8).toInt := by rw [h]; have := rng32 x4; omega
  have h2 := (c_irem (own_iushr x4 8) 3 3 (by decide)).1 h1
  have h3 := c_iadd 1 (own_iushr x4 8 % 3)
  have h4 := rng32 (1 + own_iushr x4 8 % 3)
  have k1 : (1 : Int32).toInt = 1 := by decide
  show 1 ≤ (1 + own_iushr x4 8 % 3).toInt ∧ (1 + own_iushr x4 8 % 3).toInt ≤ 3
  omega
theorem own_nz (x4 : Int32) : ((1 : Int32) + ((own_iushr x4 (8 : Int32)) % (3 : Int32))) ≠ 0 := fun e => by
  have h := own_nr x4
  have e' : own_n x4 = 0 := e
  rw [e'] at h
  have k0 : (0 : Int32).toInt = 0 := by decide
  omega
theorem own_kr (x4 : Int32) : 0 ≤ (own_k x4).toInt ∧ (own_k x4).toInt < (own_n x4).toInt := by
  have h := own_nr x4
  have h1 := c_mask x4 255 8 (by decide) (by decide)
  have h2 := (c_iremV (x4 &&& 255) (own_n x4)).1 (by rw [h1]; omega) (by omega)
  exact ⟨h2.1, h2.2.1⟩
theorem own_hj (f : Int64) (k : Int32) (h0 : 0 ≤ k.toInt) (h1 : k.toInt < 3) : ((f + k.toInt64 - f).toInt32).toInt = ((k.toInt.toNat : Nat) : Int) := by
  have e1 := c_lsub (f + k.toInt64) f
  have e2 := c_ladd f k.toInt64
  have e3 := c_i2l k
  have e4 := rng64 (f + k.toInt64 - f)
  have e5 : (f + k.toInt64 - f).toInt = k.toInt := by omega
  have e6 := c_l2i (f + k.toInt64 - f)
  have e7 := rng32 ((f + k.toInt64 - f).toInt32)
  omega
theorem own_3 {n : Int32} (h : n < (2 : Int32)) : n < (3 : Int32) := by
  have k2 : (2 : Int32).toInt = 2 := by decide
  have k3 : (3 : Int32).toInt = 3 := by decide
  rw [Int32.lt_iff_toInt_lt] at *; omega
theorem own_cases (k : Int32) (m : Nat) (h0 : 0 ≤ k.toInt) (h1 : k.toInt < m) (hm : m ≤ 3) : (k = 0 ∧ 0 < m) ∨ (k = 1 ∧ 1 < m) ∨ (k = 2 ∧ 2 < m) := by
  have k0 : (0 : Int32).toInt = 0 := by decide
  have k1 : (1 : Int32).toInt = 1 := by decide
  have k2 : (2 : Int32).toInt = 2 := by decide
  simp only [← Int32.toInt_inj, k0, k1, k2]; omega
theorem own_hv1 (a b d : Int64) (k : Int32) (h0 : 0 ≤ k.toInt) (h1 : k.toInt < (1 : Nat)) : (fun j => if j = 0 then a else (fun _ => (0 : Int64)) j) k.toInt.toNat = (if k = (0 : Int32) then a else (if k = (1 : Int32) then b else d)) := by
  rcases own_cases k 1 h0 h1 (by decide) with ⟨rfl, _⟩ | ⟨rfl, h⟩ | ⟨rfl, h⟩
  · rfl
  · omega
  · omega
theorem own_hv2 (a b d : Int64) (k : Int32) (h0 : 0 ≤ k.toInt) (h1 : k.toInt < (2 : Nat)) : (fun j => if j = 1 then b else (fun j => if j = 0 then a else (fun _ => (0 : Int64)) j) j) k.toInt.toNat = (if k = (0 : Int32) then a else (if k = (1 : Int32) then b else d)) := by
  rcases own_cases k 2 h0 h1 (by decide) with ⟨rfl, _⟩ | ⟨rfl, h⟩ | ⟨rfl, h⟩
  · rfl
  · rfl
  · omega
theorem own_hv3 (a b d : Int64) (k : Int32) (h0 : 0 ≤ k.toInt) (h1 : k.toInt < (3 : Nat)) : (fun j => if j = 2 then d else (fun j => if j = 1 then b else (fun j => if j = 0 then a else (fun _ => (0 : Int64)) j) j) j) k.toInt.toNat = (if k = (0 : Int32) then a else (if k = (1 : Int32) then b else d)) := by
  rcases own_cases k 3 h0 h1 (by decide) with ⟨rfl, _⟩ | ⟨rfl, h⟩ | ⟨rfl, h⟩ <;> rfl
theorem own_b1 (x4 : Int32) (h : ((1 : Int32) + ((own_iushr x4 (8 : Int32)) % (3 : Int32))) < (2 : Int32)) : (own_k x4).toInt < (1 : Nat) := by
  have k2 : (2 : Int32).toInt = 2 := by decide
  have h1 := own_kr x4
  have h2 : (own_n x4).toInt < (2 : Int32).toInt := Int32.lt_iff_toInt_lt.mp h
  omega
theorem own_b2 (x4 : Int32) (h : ((1 : Int32) + ((own_iushr x4 (8 : Int32)) % (3 : Int32))) < (3 : Int32)) : (own_k x4).toInt < (2 : Nat) := by
  have k3 : (3 : Int32).toInt = 3 := by decide
  have h1 := own_kr x4
  have h2 : (own_n x4).toInt < (3 : Int32).toInt := Int32.lt_iff_toInt_lt.mp h
  omega
theorem own_b3 (x4 : Int32) : (own_k x4).toInt < (3 : Nat) := by
  have h1 := own_kr x4
  have h2 := own_nr x4
  omega
def own_m0_116a (x4 : Int32) (x1 : Int64) (x2 : Int64) (x3 : Int64) : Int64 := (if ((x4 &&& (255 : Int32)) % ((1 : Int32) + ((own_iushr x4 (8 : Int32)) % (3 : Int32)))) = (0 : Int32) then x1 else (if ((x4 &&& (255 : Int32)) % ((1 : Int32) + ((own_iushr x4 (8 : Int32)) % (3 : Int32)))) = (1 : Int32) then x2 else x3))
set_option maxRecDepth 65536 in
set_option maxHeartbeats 40000000 in
theorem own_law (l : Launch) (Z : State) (a0 : Array Value) (hw : ∀ d ∈ tables_1, d.before a0 Z = true) (x0 : Int64) (x1 : Int64) (x2 : Int64) (x3 : Int64) (x4 : Int32) (h0 : Heap) (n0 : Nat) (Z0 : n0 ≤ h0.size) :
    own_Met l Z x code maxLocals ret room_1 #[(.long x0), (.long x1), (.long x2), (.long x3), (.int x4)] h0 (fun v h L => v = some (.int 1) ∧ Fr n0 L) := by
  refine own_met pn_0 ?_
  intro p e s m below meth c T0 X0 hx hby hml hown hZ e0 hret hlk hnm
  replace hown : s.vm.findClass "com/example/log_to_queue/logtoqueue/queue/IndexEntriesLogPositionPinLaw" = some m.cls := hown
  replace hml : c.maxLocals = 16 := hml
  rw [ef_0 m x0 x1 x2 x3 x4]
  have N0 := Fr.nil n0
  show own_Fin _ _ _ _ _ _ _ (T0.setTop (mkF m 0 #[.val (.long x0), .second, .val (.long x1), .second, .val (.long x2), .second, .val (.long x3), .second, .val (.int x4), .unset, .unset, .unset, .unset, .unset, .unset, .unset] []))
  refine own_of (fun _ kk => XS.lloadN X0.here hx rfl (hb hby at_0) rfl kk) ?_
  show own_Fin _ _ _ _ _ _ _ (T0.setTop (mkF m 1 #[.val (.long x0), .second, .val (.long x1), .second, .val (.long x2), .second, .val (.long x3), .second, .val (.int x4), .unset, .unset, .unset, .unset, .unset, .unset, .unset] [(.long x0)]))
  refine own_of (fun _ kk => X0.ldc2Long hx hown (mvT hZ (hw _ (List.mem_of_getElem? (i := 0) rfl))) (g := (mkF m 1 #[.val (.long x0), .second, .val (.long x1), .second, .val (.long x2), .second, .val (.long x3), .second, .val (.int x4), .unset, .unset, .unset, .unset, .unset, .unset, .unset] [(.long x0)])) rfl (hb hby at_1) _ kk) ?_
  show own_Fin _ _ _ _ _ _ _ (T0.setTop (mkF m 4 #[.val (.long x0), .second, .val (.long x1), .second, .val (.long x2), .second, .val (.long x3), .second, .val (.int x4), .unset, .unset, .unset, .unset, .unset, .unset, .unset] [(.long (9223372036854775799 : Int64)), (.long x0)]))
  refine own_callP X0 hx hZ hown (hw _ (List.mem_of_getElem? (i := 1) rfl)) (hw _ (List.mem_of_getElem? (i := 2) rfl)) (hw _ (List.mem_of_getElem? (i := 3) rfl)) (hw _ (List.mem_of_getElem? (i := 4) rfl)) (by decide) e0 (argsL := [(.long x0), (.long (9223372036854775799 : Int64))]) (rv := (.long (own_f1 x0 (9223372036854775799 : Int64)))) (met1 l Z a0 hw x0 (9223372036854775799 : Int64) h0) (W := 0) (by decide) (by decide) (by decide) (by decide) (by rw [hml]; rfl) pd_4 rfl (rest := []) rfl (Nat.le_of_eq rfl) (hb hby at_4) ?_
  intro T1 X1 e1
  show own_Fin _ _ _ _ _ _ _ (T1.setTop (mkF m 7 #[.val (.long x0), .second, .val (.long x1), .second, .val (.long x2), .second, .val (.long x3), .second, .val (.int x4), .unset, .unset, .unset, .unset, .unset, .unset, .unset] [(.long (own_f1 x0 (9223372036854775799 : Int64)))]))
  refine own_of (fun _ kk => XS.lstore X1.here hx rfl (hb hby at_7) rfl (l' := #[.val (.long x0), .second, .val (.long x1), .second, .val (.long x2), .second, .val (.long x3), .second, .val (.int x4), .val (.long (own_f1 x0 (9223372036854775799 : Int64))), .second, .unset, .unset, .unset, .unset, .unset]) rfl kk) ?_
  show own_Fin _ _ _ _ _ _ _ (T1.setTop (mkF m 9 #[.val (.long x0), .second, .val (.long x1), .second, .val (.long x2), .second, .val (.long x3), .second, .val (.int x4), .val (.long (own_f1 x0 (9223372036854775799 : Int64))), .second, .unset, .unset, .unset, .unset, .unset] []))
  refine own_of (fun _ kk => XS.iconst X1.here hx rfl (hb hby at_9) kk) ?_
  show own_Fin _ _ _ _ _ _ _ (T1.setTop (mkF m 10 #[.val (.long x0), .second, .val (.long x1), .second, .val (.long x2), .second, .val (.long x3), .second, .val (.int x4), .val (.long (own_f1 x0 (9223372036854775799 : Int64))), .second, .unset, .unset, .unset, .unset, .unset] [(.int (1 : Int32))]))
  refine own_of (fun _ kk => XS.iload X1.here hx rfl (hb hby at_10) rfl kk) ?_
  show own_Fin _ _ _ _ _ _ _ (T1.setTop (mkF m 12 #[.val (.long x0), .second, .val (.long x1), .second, .val (.long x2), .second, .val (.long x3), .second, .val (.int x4), .val (.long (own_f1 x0 (9223372036854775799 : Int64))), .second, .unset, .unset, .unset, .unset, .unset] [(.int x4), (.int (1 : Int32))]))
  refine own_of (fun _ kk => XS.bipush X1.here hx rfl (hb hby at_12) kk) ?_
  show own_Fin _ _ _ _ _ _ _ (T1.setTop (mkF m 14 #[.val (.long x0), .second, .val (.long x1), .second, .val (.long x2), .second, .val (.long x3), .second, .val (.int x4), .val (.long (own_f1 x0 (9223372036854775799 : Int64))), .second, .unset, .unset, .unset, .unset, .unset] [(.int (8 : Int32)), (.int x4), (.int (1 : Int32))]))
  refine own_of (fun _ kk => XS.iushr X1.here hx rfl (hb hby at_14) rfl kk) ?_
  show own_Fin _ _ _ _ _ _ _ (T1.setTop (mkF m 15 #[.val (.long x0), .second, .val (.long x1), .second, .val (.long x2), .second, .val (.long x3), .second, .val (.int x4), .val (.long (own_f1 x0 (9223372036854775799 : Int64))), .second, .unset, .unset, .unset, .unset, .unset] [(.int (own_iushr x4 (8 : Int32))), (.int (1 : Int32))]))
  refine own_of (fun _ kk => XS.iconst X1.here hx rfl (hb hby at_15) kk) ?_
  show own_Fin _ _ _ _ _ _ _ (T1.setTop (mkF m 16 #[.val (.long x0), .second, .val (.long x1), .second, .val (.long x2), .second, .val (.long x3), .second, .val (.int x4), .val (.long (own_f1 x0 (9223372036854775799 : Int64))), .second, .unset, .unset, .unset, .unset, .unset] [(.int (3 : Int32)), (.int (own_iushr x4 (8 : Int32))), (.int (1 : Int32))]))
  refine own_of (fun _ kk => iremM X1 hx rfl (hb hby at_16) rfl (by decide) kk) ?_
  show own_Fin _ _ _ _ _ _ _ (T1.setTop (mkF m 17 #[.val (.long x0), .second, .val (.long x1), .second, .val (.long x2), .second, .val (.long x3), .second, .val (.int x4), .val (.long (own_f1 x0 (9223372036854775799 : Int64))), .second, .unset, .unset, .unset, .unset, .unset] [(.int ((own_iushr x4 (8 : Int32)) % (3 : Int32))), (.int (1 : Int32))]))
  refine own_of (fun _ kk => XS.iadd X1.here hx rfl (hb hby at_17) rfl kk) ?_
  show own_Fin _ _ _ _ _ _ _ (T1.setTop (mkF m 18 #[.val (.long x0), .second, .val (.long x1), .second, .val (.long x2), .second, .val (.long x3), .second, .val (.int x4), .val (.long (own_f1 x0 (9223372036854775799 : Int64))), .second, .unset, .unset, .unset, .unset, .unset] [(.int ((1 : Int32) + ((own_iushr x4 (8 : Int32)) % (3 : Int32))))]))
  refine own_of (fun _ kk => XS.istore X1.here hx rfl (hb hby at_18) rfl (l' := #[.val (.long x0), .second, .val (.long x1), .second, .val (.long x2), .second, .val (.long x3), .second, .val (.int x4), .val (.long (own_f1 x0 (9223372036854775799 : Int64))), .second, .val (.int ((1 : Int32) + ((own_iushr x4 (8 : Int32)) % (3 : Int32)))), .unset, .unset, .unset, .unset]) rfl kk) ?_
  show own_Fin _ _ _ _ _ _ _ (T1.setTop (mkF m 20 #[.val (.long x0), .second, .val (.long x1), .second, .val (.long x2), .second, .val (.long x3), .second, .val (.int x4), .val (.long (own_f1 x0 (9223372036854775799 : Int64))), .second, .val (.int ((1 : Int32) + ((own_iushr x4 (8 : Int32)) % (3 : Int32)))), .unset, .unset, .unset, .unset] []))
  refine own_of (fun _ kk => XS.iload X1.here hx rfl (hb hby at_20) rfl kk) ?_
  show own_Fin _ _ _ _ _ _ _ (T1.setTop (mkF m 22 #[.val (.long x0), .second, .val (.long x1), .second, .val (.long x2), .second, .val (.long x3), .second, .val (.int x4), .val (.long (own_f1 x0 (9223372036854775799 : Int64))), .second, .val (.int ((1 : Int32) + ((own_iushr x4 (8 : Int32)) % (3 : Int32)))), .unset, .unset, .unset, .unset] [(.int x4)]))
  refine own_of (fun _ kk => XS.sipush X1.here hx rfl (hb hby at_22) kk) ?_
  show own_Fin _ _ _ _ _ _ _ (T1.setTop (mkF m 25 #[.val (.long x0), .second, .val (.long x1), .second, .val (.long x2), .second, .val (.long x3), .second, .val (.int x4), .val (.long (own_f1 x0 (9223372036854775799 : Int64))), .second, .val (.int ((1 : Int32) + ((own_iushr x4 (8 : Int32)) % (3 : Int32)))), .unset, .unset, .unset, .unset] [(.int (255 : Int32)), (.int x4)]))
  refine own_of (fun _ kk => XS.iand X1.here hx rfl (hb hby at_25) rfl kk) ?_
  show own_Fin _ _ _ _ _ _ _ (T1.setTop (mkF m 26 #[.val (.long x0), .second, .val (.long x1), .second, .val (.long x2), .second, .val (.long x3), .second, .val (.int x4), .val (.long (own_f1 x0 (9223372036854775799 : Int64))), .second, .val (.int ((1 : Int32) + ((own_iushr x4 (8 : Int32)) % (3 : Int32)))), .unset, .unset, .unset, .unset] [(.int (x4 &&& (255 : Int32)))]))
  refine own_of (fun _ kk => XS.iload X1.here hx rfl (hb hby at_26) rfl kk) ?_
  show own_Fin _ _ _ _ _ _ _ (T1.setTop (mkF m 28 #[.val (.long x0), .second, .val (.long x1), .second, .val (.long x2), .second, .val (.long x3), .second, .val (.int x4), .val (.long (own_f1 x0 (9223372036854775799 : Int64))), .second, .val (.int ((1 : Int32) + ((own_iushr x4 (8 : Int32)) % (3 : Int32)))), .unset, .unset, .unset, .unset] [(.int ((1 : Int32) + ((own_iushr x4 (8 : Int32)) % (3 : Int32)))), (.int (x4 &&& (255 : Int32)))]))
  refine own_of (fun _ kk => iremM X1 hx rfl (hb hby at_28) rfl (own_nz x4) kk) ?_
  show own_Fin _ _ _ _ _ _ _ (T1.setTop (mkF m 29 #[.val (.long x0), .second, .val (.long x1), .second, .val (.long x2), .second, .val (.long x3), .second, .val (.int x4), .val (.long (own_f1 x0 (9223372036854775799 : Int64))), .second, .val (.int ((1 : Int32) + ((own_iushr x4 (8 : Int32)) % (3 : Int32)))), .unset, .unset, .unset, .unset] [(.int ((x4 &&& (255 : Int32)) % ((1 : Int32) + ((own_iushr x4 (8 : Int32)) % (3 : Int32)))))]))
  refine own_of (fun _ kk => XS.istore X1.here hx rfl (hb hby at_29) rfl (l' := #[.val (.long x0), .second, .val (.long x1), .second, .val (.long x2), .second, .val (.long x3), .second, .val (.int x4), .val (.long (own_f1 x0 (9223372036854775799 : Int64))), .second, .val (.int ((1 : Int32) + ((own_iushr x4 (8 : Int32)) % (3 : Int32)))), .val (.int ((x4 &&& (255 : Int32)) % ((1 : Int32) + ((own_iushr x4 (8 : Int32)) % (3 : Int32))))), .unset, .unset, .unset]) rfl kk) ?_
  show own_Fin _ _ _ _ _ _ _ (T1.setTop (mkF m 31 #[.val (.long x0), .second, .val (.long x1), .second, .val (.long x2), .second, .val (.long x3), .second, .val (.int x4), .val (.long (own_f1 x0 (9223372036854775799 : Int64))), .second, .val (.int ((1 : Int32) + ((own_iushr x4 (8 : Int32)) % (3 : Int32)))), .val (.int ((x4 &&& (255 : Int32)) % ((1 : Int32) + ((own_iushr x4 (8 : Int32)) % (3 : Int32))))), .unset, .unset, .unset] []))
  refine own_newO X1 hx hZ hown (hw _ (List.mem_of_getElem? (i := 5) rfl)) (hw _ (List.mem_of_getElem? (i := 6) rfl)) (hw _ (List.mem_of_getElem? (i := 7) rfl)) e1 (hb hby at_31) (by decide) (by decide) ?_
  intro T2 h2 b2 X2 e2 E2 g2 A2 D2
  have Z2 : n0 ≤ h2.size := Nat.le_trans Z0 E2.1
  have ge_b2 : n0 ≤ b2 := by rw [g2]; exact Z0
  have Fb2_positions : Fld Z h2 b2 "com/example/log_to_queue/logtoqueue/queue/IndexEntries" "positions" "[J" .null := D2 (Or.inl (hw _ (List.mem_of_getElem? (i := 16) rfl))) (ty := (.array .long)) (by decide)
  have Fb2_sizes : Fld Z h2 b2 "com/example/log_to_queue/logtoqueue/queue/IndexEntries" "sizes" "[I" .null := D2 (Or.inl (hw _ (List.mem_of_getElem? (i := 19) rfl))) (ty := (.array .int)) (by decide)
  have Fb2_tagFields : Fld Z h2 b2 "com/example/log_to_queue/logtoqueue/queue/IndexEntries" "tagFields" "[I" .null := D2 (Or.inl (hw _ (List.mem_of_getElem? (i := 21) rfl))) (ty := (.array .int)) (by decide)
  have Fb2_first : Fld Z h2 b2 "com/example/log_to_queue/logtoqueue/queue/IndexEntries" "first" "J" (.long (0 : Int64)) := D2 (Or.inr (hw _ (List.mem_of_getElem? (i := 23) rfl))) (ty := .long) (by decide)
  have Fb2_length : Fld Z h2 b2 "com/example/log_to_queue/logtoqueue/queue/IndexEntries" "length" "I" (.int (0 : Int32)) := D2 (Or.inl (hw _ (List.mem_of_getElem? (i := 30) rfl))) (ty := .int) (by decide)
  show own_Fin _ _ _ _ _ _ _ (T2.setTop (mkF m 34 #[.val (.long x0), .second, .val (.long x1), .second, .val (.long x2), .second, .val (.long x3), .second, .val (.int x4), .val (.long (own_f1 x0 (9223372036854775799 : Int64))), .second, .val (.int ((1 : Int32) + ((own_iushr x4 (8 : Int32)) % (3 : Int32)))), .val (.int ((x4 &&& (255 : Int32)) % ((1 : Int32) + ((own_iushr x4 (8 : Int32)) % (3 : Int32))))), .unset, .unset, .unset] [(.ref b2)]))
  refine own_of (fun _ kk => XS.dup X2.here hx rfl (hb hby at_34) rfl rfl kk) ?_
  show own_Fin _ _ _ _ _ _ _ (T2.setTop (mkF m 35 #[.val (.long x0), .second, .val (.long x1), .second, .val (.long x2), .second, .val (.long x3), .second, .val (.int x4), .val (.long (own_f1 x0 (9223372036854775799 : Int64))), .second, .val (.int ((1 : Int32) + ((own_iushr x4 (8 : Int32)) % (3 : Int32)))), .val (.int ((x4 &&& (255 : Int32)) % ((1 : Int32) + ((own_iushr x4 (8 : Int32)) % (3 : Int32))))), .unset, .unset, .unset] [(.ref b2), (.ref b2)]))
  refine own_of (fun _ kk => XS.lload X2.here hx rfl (hb hby at_35) rfl kk) ?_
  show own_Fin _ _ _ _ _ _ _ (T2.setTop (mkF m 37 #[.val (.long x0), .second, .val (.long x1), .second, .val (.long x2), .second, .val (.long x3), .second, .val (.int x4), .val (.long (own_f1 x0 (9223372036854775799 : Int64))), .second, .val (.int ((1 : Int32) + ((own_iushr x4 (8 : Int32)) % (3 : Int32)))), .val (.int ((x4 &&& (255 : Int32)) % ((1 : Int32) + ((own_iushr x4 (8 : Int32)) % (3 : Int32))))), .unset, .unset, .unset] [(.long (own_f1 x0 (9223372036854775799 : Int64))), (.ref b2), (.ref b2)]))
  refine own_callC X2 hx hZ (y := (⟨"com/example/log_to_queue/logtoqueue/queue/IndexEntries", "<init>", "(J)V"⟩ : MethodName)) rfl hown (hw _ (List.mem_of_getElem? (i := 8) rfl)) (hw _ (List.mem_of_getElem? (i := 9) rfl)) (hw _ (List.mem_of_getElem? (i := 7) rfl)) (hw _ (List.mem_of_getElem? (i := 10) rfl)) (by decide) e2 (argsL := [(.long (own_f1 x0 (9223372036854775799 : Int64)))]) (met2 l Z a0 hw b2 (own_f1 x0 (9223372036854775799 : Int64)) h2 n0 Z2 A2 Fb2_first Fb2_length Fb2_positions Fb2_sizes Fb2_tagFields ge_b2) (W := 1) (by decide) (by decide) (by decide) (by decide) (by rw [hml]; rfl) pd_2 rfl (rest := [(.ref b2)]) rfl (Nat.le_of_eq rfl) (hb hby at_37) ?_
  intro v3 T3 h3 L3 X3 e3 q3
  obtain ⟨rfl, N3q, Z3, a1, a2, a3, O3⟩ := q3
  have N3 := Fr.app N0 N3q
  show own_Fin _ _ _ _ _ _ _ (T3.setTop (mkF m 40 #[.val (.long x0), .second, .val (.long x1), .second, .val (.long x2), .second, .val (.long x3), .second, .val (.int x4), .val (.long (own_f1 x0 (9223372036854775799 : Int64))), .second, .val (.int ((1 : Int32) + ((own_iushr x4 (8 : Int32)) % (3 : Int32)))), .val (.int ((x4 &&& (255 : Int32)) % ((1 : Int32) + ((own_iushr x4 (8 : Int32)) % (3 : Int32))))), .unset, .unset, .unset] [(.ref b2)]))
  refine own_of (fun _ kk => XS.astore X3.here hx rfl (hb hby at_40) rfl rfl (l' := #[.val (.long x0), .second, .val (.long x1), .second, .val (.long x2), .second, .val (.long x3), .second, .val (.int x4), .val (.long (own_f1 x0 (9223372036854775799 : Int64))), .second, .val (.int ((1 : Int32) + ((own_iushr x4 (8 : Int32)) % (3 : Int32)))), .val (.int ((x4 &&& (255 : Int32)) % ((1 : Int32) + ((own_iushr x4 (8 : Int32)) % (3 : Int32))))), .val (.ref b2), .unset, .unset]) rfl kk) ?_
  show own_Fin _ _ _ _ _ _ _ (T3.setTop (mkF m 42 #[.val (.long x0), .second, .val (.long x1), .second, .val (.long x2), .second, .val (.long x3), .second, .val (.int x4), .val (.long (own_f1 x0 (9223372036854775799 : Int64))), .second, .val (.int ((1 : Int32) + ((own_iushr x4 (8 : Int32)) % (3 : Int32)))), .val (.int ((x4 &&& (255 : Int32)) % ((1 : Int32) + ((own_iushr x4 (8 : Int32)) % (3 : Int32))))), .val (.ref b2), .unset, .unset] []))
  refine own_of (fun _ kk => XS.aload X3.here hx rfl (hb hby at_42) rfl rfl kk) ?_
  show own_Fin _ _ _ _ _ _ _ (T3.setTop (mkF m 44 #[.val (.long x0), .second, .val (.long x1), .second, .val (.long x2), .second, .val (.long x3), .second, .val (.int x4), .val (.long (own_f1 x0 (9223372036854775799 : Int64))), .second, .val (.int ((1 : Int32) + ((own_iushr x4 (8 : Int32)) % (3 : Int32)))), .val (.int ((x4 &&& (255 : Int32)) % ((1 : Int32) + ((own_iushr x4 (8 : Int32)) % (3 : Int32))))), .val (.ref b2), .unset, .unset] [(.ref b2)]))
  refine own_of (fun _ kk => XS.lloadN X3.here hx rfl (hb hby at_44) rfl kk) ?_
  show own_Fin _ _ _ _ _ _ _ (T3.setTop (mkF m 45 #[.val (.long x0), .second, .val (.long x1), .second, .val (.long x2), .second, .val (.long x3), .second, .val (.int x4), .val (.long (own_f1 x0 (9223372036854775799 : Int64))), .second, .val (.int ((1 : Int32) + ((own_iushr x4 (8 : Int32)) % (3 : Int32)))), .val (.int ((x4 &&& (255 : Int32)) % ((1 : Int32) + ((own_iushr x4 (8 : Int32)) % (3 : Int32))))), .val (.ref b2), .unset, .unset] [(.long x1), (.ref b2)]))
  refine own_of (fun _ kk => XS.iload X3.here hx rfl (hb hby at_45) rfl kk) ?_
  show own_Fin _ _ _ _ _ _ _ (T3.setTop (mkF m 47 #[.val (.long x0), .second, .val (.long x1), .second, .val (.long x2), .second, .val (.long x3), .second, .val (.int x4), .val (.long (own_f1 x0 (9223372036854775799 : Int64))), .second, .val (.int ((1 : Int32) + ((own_iushr x4 (8 : Int32)) % (3 : Int32)))), .val (.int ((x4 &&& (255 : Int32)) % ((1 : Int32) + ((own_iushr x4 (8 : Int32)) % (3 : Int32))))), .val (.ref b2), .unset, .unset] [(.int x4), (.long x1), (.ref b2)]))
  refine own_of (fun _ kk => XS.iload X3.here hx rfl (hb hby at_47) rfl kk) ?_
  show own_Fin _ _ _ _ _ _ _ (T3.setTop (mkF m 49 #[.val (.long x0), .second, .val (.long x1), .second, .val (.long x2), .second, .val (.long x3), .second, .val (.int x4), .val (.long (own_f1 x0 (9223372036854775799 : Int64))), .second, .val (.int ((1 : Int32) + ((own_iushr x4 (8 : Int32)) % (3 : Int32)))), .val (.int ((x4 &&& (255 : Int32)) % ((1 : Int32) + ((own_iushr x4 (8 : Int32)) % (3 : Int32))))), .val (.ref b2), .unset, .unset] [(.int x4), (.int x4), (.long x1), (.ref b2)]))
  refine own_of (fun _ kk => XS.iconst X3.here hx rfl (hb hby at_49) kk) ?_
  show own_Fin _ _ _ _ _ _ _ (T3.setTop (mkF m 50 #[.val (.long x0), .second, .val (.long x1), .second, .val (.long x2), .second, .val (.long x3), .second, .val (.int x4), .val (.long (own_f1 x0 (9223372036854775799 : Int64))), .second, .val (.int ((1 : Int32) + ((own_iushr x4 (8 : Int32)) % (3 : Int32)))), .val (.int ((x4 &&& (255 : Int32)) % ((1 : Int32) + ((own_iushr x4 (8 : Int32)) % (3 : Int32))))), .val (.ref b2), .unset, .unset] [(.int (-1 : Int32)), (.int x4), (.int x4), (.long x1), (.ref b2)]))
  refine own_of (fun _ kk => XS.ixor X3.here hx rfl (hb hby at_50) rfl kk) ?_
  show own_Fin _ _ _ _ _ _ _ (T3.setTop (mkF m 51 #[.val (.long x0), .second, .val (.long x1), .second, .val (.long x2), .second, .val (.long x3), .second, .val (.int x4), .val (.long (own_f1 x0 (9223372036854775799 : Int64))), .second, .val (.int ((1 : Int32) + ((own_iushr x4 (8 : Int32)) % (3 : Int32)))), .val (.int ((x4 &&& (255 : Int32)) % ((1 : Int32) + ((own_iushr x4 (8 : Int32)) % (3 : Int32))))), .val (.ref b2), .unset, .unset] [(.int (x4 ^^^ (-1 : Int32))), (.int x4), (.long x1), (.ref b2)]))
  refine own_callV X3 hx hZ (y := (⟨"com/example/log_to_queue/logtoqueue/queue/IndexEntries", "add", "(JII)V"⟩ : MethodName)) (z := (⟨"com/example/log_to_queue/logtoqueue/queue/IndexEntries", "add", "(JII)V"⟩ : MethodName)) hown (hw _ (List.mem_of_getElem? (i := 24) rfl)) (hw _ (List.mem_of_getElem? (i := 25) rfl)) (notFace_of_selects (args := #[]) (mvT hZ (hw _ (List.mem_of_getElem? (i := 27) rfl)))) (hw _ (List.mem_of_getElem? (i := 27) rfl)) (hw _ (List.mem_of_getElem? (i := 26) rfl)) (hw _ (List.mem_of_getElem? (i := 7) rfl)) (hw _ (List.mem_of_getElem? (i := 28) rfl)) (by decide) e3 O3.1 (argsL := [(.long x1), (.int x4), (.int (x4 ^^^ (-1 : Int32)))]) (met4 l Z a0 hw b2 x1 x4 (x4 ^^^ (-1 : Int32)) (own_f1 x0 (9223372036854775799 : Int64)) (0 : Int32) a1 a2 a3 (fun _ => (0 : Int64)) (fun _ => (0 : Int32)) (fun _ => (0 : Int32)) 0 h3 n0 Z3 O3 (by decide) (by decide)) (W := 0) (by decide) (by decide) (by decide) (by decide) (by rw [hml]; rfl) pd_3 rfl (rest := []) rfl (Nat.le_of_eq rfl) (hb hby at_51) ?_
  intro v4 T4 h4 L4 X4 e4 q4
  obtain ⟨rfl, N4q, Z4, O4⟩ := q4
  have N4 := Fr.app N3 N4q
  show own_Fin _ _ _ _ _ _ _ (T4.setTop (mkF m 54 #[.val (.long x0), .second, .val (.long x1), .second, .val (.long x2), .second, .val (.long x3), .second, .val (.int x4), .val (.long (own_f1 x0 (9223372036854775799 : Int64))), .second, .val (.int ((1 : Int32) + ((own_iushr x4 (8 : Int32)) % (3 : Int32)))), .val (.int ((x4 &&& (255 : Int32)) % ((1 : Int32) + ((own_iushr x4 (8 : Int32)) % (3 : Int32))))), .val (.ref b2), .unset, .unset] []))
  refine own_of (fun _ kk => XS.iload X4.here hx rfl (hb hby at_54) rfl kk) ?_
  show own_Fin _ _ _ _ _ _ _ (T4.setTop (mkF m 56 #[.val (.long x0), .second, .val (.long x1), .second, .val (.long x2), .second, .val (.long x3), .second, .val (.int x4), .val (.long (own_f1 x0 (9223372036854775799 : Int64))), .second, .val (.int ((1 : Int32) + ((own_iushr x4 (8 : Int32)) % (3 : Int32)))), .val (.int ((x4 &&& (255 : Int32)) % ((1 : Int32) + ((own_iushr x4 (8 : Int32)) % (3 : Int32))))), .val (.ref b2), .unset, .unset] [(.int ((1 : Int32) + ((own_iushr x4 (8 : Int32)) % (3 : Int32))))]))
  refine own_of (fun _ kk => XS.iconst X4.here hx rfl (hb hby at_56) kk) ?_
  show own_Fin _ _ _ _ _ _ _ (T4.setTop (mkF m 57 #[.val (.long x0), .second, .val (.long x1), .second, .val (.long x2), .second, .val (.long x3), .second, .val (.int x4), .val (.long (own_f1 x0 (9223372036854775799 : Int64))), .second, .val (.int ((1 : Int32) + ((own_iushr x4 (8 : Int32)) % (3 : Int32)))), .val (.int ((x4 &&& (255 : Int32)) % ((1 : Int32) + ((own_iushr x4 (8 : Int32)) % (3 : Int32))))), .val (.ref b2), .unset, .unset] [(.int (2 : Int32)), (.int ((1 : Int32) + ((own_iushr x4 (8 : Int32)) % (3 : Int32))))]))
  by_cases c57 : ((1 : Int32) + ((own_iushr x4 (8 : Int32)) % (3 : Int32))) < (2 : Int32)
  · refine own_of (fun _ kk => XS.icmpYes X4.here hx rfl (pc0 := 57) (pc' := 73) rfl (hb hby at_57) rfl (tlt c57).1 (by decide) (by decide) kk) ?_
    show own_Fin _ _ _ _ _ _ _ (T4.setTop (mkF m 73 #[.val (.long x0), .second, .val (.long x1), .second, .val (.long x2), .second, .val (.long x3), .second, .val (.int x4), .val (.long (own_f1 x0 (9223372036854775799 : Int64))), .second, .val (.int ((1 : Int32) + ((own_iushr x4 (8 : Int32)) % (3 : Int32)))), .val (.int ((x4 &&& (255 : Int32)) % ((1 : Int32) + ((own_iushr x4 (8 : Int32)) % (3 : Int32))))), .val (.ref b2), .unset, .unset] []))
    refine own_of (fun _ kk => XS.iload X4.here hx rfl (hb hby at_73) rfl kk) ?_
    show own_Fin _ _ _ _ _ _ _ (T4.setTop (mkF m 75 #[.val (.long x0), .second, .val (.long x1), .second, .val (.long x2), .second, .val (.long x3), .second, .val (.int x4), .val (.long (own_f1 x0 (9223372036854775799 : Int64))), .second, .val (.int ((1 : Int32) + ((own_iushr x4 (8 : Int32)) % (3 : Int32)))), .val (.int ((x4 &&& (255 : Int32)) % ((1 : Int32) + ((own_iushr x4 (8 : Int32)) % (3 : Int32))))), .val (.ref b2), .unset, .unset] [(.int ((1 : Int32) + ((own_iushr x4 (8 : Int32)) % (3 : Int32))))]))
    refine own_of (fun _ kk => XS.iconst X4.here hx rfl (hb hby at_75) kk) ?_
    show own_Fin _ _ _ _ _ _ _ (T4.setTop (mkF m 76 #[.val (.long x0), .second, .val (.long x1), .second, .val (.long x2), .second, .val (.long x3), .second, .val (.int x4), .val (.long (own_f1 x0 (9223372036854775799 : Int64))), .second, .val (.int ((1 : Int32) + ((own_iushr x4 (8 : Int32)) % (3 : Int32)))), .val (.int ((x4 &&& (255 : Int32)) % ((1 : Int32) + ((own_iushr x4 (8 : Int32)) % (3 : Int32))))), .val (.ref b2), .unset, .unset] [(.int (3 : Int32)), (.int ((1 : Int32) + ((own_iushr x4 (8 : Int32)) % (3 : Int32))))]))
    refine own_of (fun _ kk => XS.icmpYes X4.here hx rfl (pc0 := 76) (pc' := 94) rfl (hb hby at_76) rfl (tlt (own_3 c57)).1 (by decide) (by decide) kk) ?_
    show own_Fin _ _ _ _ _ _ _ (T4.setTop (mkF m 94 #[.val (.long x0), .second, .val (.long x1), .second, .val (.long x2), .second, .val (.long x3), .second, .val (.int x4), .val (.long (own_f1 x0 (9223372036854775799 : Int64))), .second, .val (.int ((1 : Int32) + ((own_iushr x4 (8 : Int32)) % (3 : Int32)))), .val (.int ((x4 &&& (255 : Int32)) % ((1 : Int32) + ((own_iushr x4 (8 : Int32)) % (3 : Int32))))), .val (.ref b2), .unset, .unset] []))
    refine own_of (fun _ kk => XS.iload X4.here hx rfl (hb hby at_94) rfl kk) ?_
    show own_Fin _ _ _ _ _ _ _ (T4.setTop (mkF m 96 #[.val (.long x0), .second, .val (.long x1), .second, .val (.long x2), .second, .val (.long x3), .second, .val (.int x4), .val (.long (own_f1 x0 (9223372036854775799 : Int64))), .second, .val (.int ((1 : Int32) + ((own_iushr x4 (8 : Int32)) % (3 : Int32)))), .val (.int ((x4 &&& (255 : Int32)) % ((1 : Int32) + ((own_iushr x4 (8 : Int32)) % (3 : Int32))))), .val (.ref b2), .unset, .unset] [(.int ((x4 &&& (255 : Int32)) % ((1 : Int32) + ((own_iushr x4 (8 : Int32)) % (3 : Int32)))))]))
    suffices k5 : own_Fin _ _ _ _ _ _ _ (T4.setTop (mkF m 116 #[.val (.long x0), .second, .val (.long x1), .second, .val (.long x2), .second, .val (.long x3), .second, .val (.int x4), .val (.long (own_f1 x0 (9223372036854775799 : Int64))), .second, .val (.int ((1 : Int32) + ((own_iushr x4 (8 : Int32)) % (3 : Int32)))), .val (.int ((x4 &&& (255 : Int32)) % ((1 : Int32) + ((own_iushr x4 (8 : Int32)) % (3 : Int32))))), .val (.ref b2), .unset, .unset] [(.long (own_m0_116a x4 x1 x2 x3))])) by
      by_cases c96 : ((x4 &&& (255 : Int32)) % ((1 : Int32) + ((own_iushr x4 (8 : Int32)) % (3 : Int32)))) = (0 : Int32)
      · refine own_of (fun _ kk => XS.ifNo X4.here hx rfl (hb hby at_96) rfl ((if0 _ _).trans (teq c96).2) kk) ?_
        show own_Fin _ _ _ _ _ _ _ (T4.setTop (mkF m 99 #[.val (.long x0), .second, .val (.long x1), .second, .val (.long x2), .second, .val (.long x3), .second, .val (.int x4), .val (.long (own_f1 x0 (9223372036854775799 : Int64))), .second, .val (.int ((1 : Int32) + ((own_iushr x4 (8 : Int32)) % (3 : Int32)))), .val (.int ((x4 &&& (255 : Int32)) % ((1 : Int32) + ((own_iushr x4 (8 : Int32)) % (3 : Int32))))), .val (.ref b2), .unset, .unset] []))
        refine own_of (fun _ kk => XS.lloadN X4.here hx rfl (hb hby at_99) rfl kk) ?_
        show own_Fin _ _ _ _ _ _ _ (T4.setTop (mkF m 100 #[.val (.long x0), .second, .val (.long x1), .second, .val (.long x2), .second, .val (.long x3), .second, .val (.int x4), .val (.long (own_f1 x0 (9223372036854775799 : Int64))), .second, .val (.int ((1 : Int32) + ((own_iushr x4 (8 : Int32)) % (3 : Int32)))), .val (.int ((x4 &&& (255 : Int32)) % ((1 : Int32) + ((own_iushr x4 (8 : Int32)) % (3 : Int32))))), .val (.ref b2), .unset, .unset] [(.long x1)]))
        refine own_of (fun _ kk => XS.goto X4.here hx rfl (pc0 := 100) (pc' := 116) rfl (hb hby at_100) (by decide) (by decide) kk) ?_
        show own_Fin _ _ _ _ _ _ _ (T4.setTop (mkF m 116 #[.val (.long x0), .second, .val (.long x1), .second, .val (.long x2), .second, .val (.long x3), .second, .val (.int x4), .val (.long (own_f1 x0 (9223372036854775799 : Int64))), .second, .val (.int ((1 : Int32) + ((own_iushr x4 (8 : Int32)) % (3 : Int32)))), .val (.int ((x4 &&& (255 : Int32)) % ((1 : Int32) + ((own_iushr x4 (8 : Int32)) % (3 : Int32))))), .val (.ref b2), .unset, .unset] [(.long x1)]))
        simp only [own_m0_116a, if_pos c96] at k5 ⊢
        exact k5
      · refine own_of (fun _ kk => XS.ifYes X4.here hx rfl (pc0 := 96) (pc' := 103) rfl (hb hby at_96) rfl ((if0 _ _).trans (feq c96).2) (by decide) (by decide) kk) ?_
        show own_Fin _ _ _ _ _ _ _ (T4.setTop (mkF m 103 #[.val (.long x0), .second, .val (.long x1), .second, .val (.long x2), .second, .val (.long x3), .second, .val (.int x4), .val (.long (own_f1 x0 (9223372036854775799 : Int64))), .second, .val (.int ((1 : Int32) + ((own_iushr x4 (8 : Int32)) % (3 : Int32)))), .val (.int ((x4 &&& (255 : Int32)) % ((1 : Int32) + ((own_iushr x4 (8 : Int32)) % (3 : Int32))))), .val (.ref b2), .unset, .unset] []))
        refine own_of (fun _ kk => XS.iload X4.here hx rfl (hb hby at_103) rfl kk) ?_
        show own_Fin _ _ _ _ _ _ _ (T4.setTop (mkF m 105 #[.val (.long x0), .second, .val (.long x1), .second, .val (.long x2), .second, .val (.long x3), .second, .val (.int x4), .val (.long (own_f1 x0 (9223372036854775799 : Int64))), .second, .val (.int ((1 : Int32) + ((own_iushr x4 (8 : Int32)) % (3 : Int32)))), .val (.int ((x4 &&& (255 : Int32)) % ((1 : Int32) + ((own_iushr x4 (8 : Int32)) % (3 : Int32))))), .val (.ref b2), .unset, .unset] [(.int ((x4 &&& (255 : Int32)) % ((1 : Int32) + ((own_iushr x4 (8 : Int32)) % (3 : Int32)))))]))
        refine own_of (fun _ kk => XS.iconst X4.here hx rfl (hb hby at_105) kk) ?_
        show own_Fin _ _ _ _ _ _ _ (T4.setTop (mkF m 106 #[.val (.long x0), .second, .val (.long x1), .second, .val (.long x2), .second, .val (.long x3), .second, .val (.int x4), .val (.long (own_f1 x0 (9223372036854775799 : Int64))), .second, .val (.int ((1 : Int32) + ((own_iushr x4 (8 : Int32)) % (3 : Int32)))), .val (.int ((x4 &&& (255 : Int32)) % ((1 : Int32) + ((own_iushr x4 (8 : Int32)) % (3 : Int32))))), .val (.ref b2), .unset, .unset] [(.int (1 : Int32)), (.int ((x4 &&& (255 : Int32)) % ((1 : Int32) + ((own_iushr x4 (8 : Int32)) % (3 : Int32)))))]))
        by_cases c106 : ((x4 &&& (255 : Int32)) % ((1 : Int32) + ((own_iushr x4 (8 : Int32)) % (3 : Int32)))) = (1 : Int32)
        · refine own_of (fun _ kk => XS.icmpNo X4.here hx rfl (hb hby at_106) rfl (teq c106).2 kk) ?_
          show own_Fin _ _ _ _ _ _ _ (T4.setTop (mkF m 109 #[.val (.long x0), .second, .val (.long x1), .second, .val (.long x2), .second, .val (.long x3), .second, .val (.int x4), .val (.long (own_f1 x0 (9223372036854775799 : Int64))), .second, .val (.int ((1 : Int32) + ((own_iushr x4 (8 : Int32)) % (3 : Int32)))), .val (.int ((x4 &&& (255 : Int32)) % ((1 : Int32) + ((own_iushr x4 (8 : Int32)) % (3 : Int32))))), .val (.ref b2), .unset, .unset] []))
          refine own_of (fun _ kk => XS.lload X4.here hx rfl (hb hby at_109) rfl kk) ?_
          show own_Fin _ _ _ _ _ _ _ (T4.setTop (mkF m 111 #[.val (.long x0), .second, .val (.long x1), .second, .val (.long x2), .second, .val (.long x3), .second, .val (.int x4), .val (.long (own_f1 x0 (9223372036854775799 : Int64))), .second, .val (.int ((1 : Int32) + ((own_iushr x4 (8 : Int32)) % (3 : Int32)))), .val (.int ((x4 &&& (255 : Int32)) % ((1 : Int32) + ((own_iushr x4 (8 : Int32)) % (3 : Int32))))), .val (.ref b2), .unset, .unset] [(.long x2)]))
          refine own_of (fun _ kk => XS.goto X4.here hx rfl (pc0 := 111) (pc' := 116) rfl (hb hby at_111) (by decide) (by decide) kk) ?_
          show own_Fin _ _ _ _ _ _ _ (T4.setTop (mkF m 116 #[.val (.long x0), .second, .val (.long x1), .second, .val (.long x2), .second, .val (.long x3), .second, .val (.int x4), .val (.long (own_f1 x0 (9223372036854775799 : Int64))), .second, .val (.int ((1 : Int32) + ((own_iushr x4 (8 : Int32)) % (3 : Int32)))), .val (.int ((x4 &&& (255 : Int32)) % ((1 : Int32) + ((own_iushr x4 (8 : Int32)) % (3 : Int32))))), .val (.ref b2), .unset, .unset] [(.long x2)]))
          simp only [own_m0_116a, if_neg c96, if_pos c106] at k5 ⊢
          exact k5
        · refine own_of (fun _ kk => XS.icmpYes X4.here hx rfl (pc0 := 106) (pc' := 114) rfl (hb hby at_106) rfl (feq c106).2 (by decide) (by decide) kk) ?_
          show own_Fin _ _ _ _ _ _ _ (T4.setTop (mkF m 114 #[.val (.long x0), .second, .val (.long x1), .second, .val (.long x2), .second, .val (.long x3), .second, .val (.int x4), .val (.long (own_f1 x0 (9223372036854775799 : Int64))), .second, .val (.int ((1 : Int32) + ((own_iushr x4 (8 : Int32)) % (3 : Int32)))), .val (.int ((x4 &&& (255 : Int32)) % ((1 : Int32) + ((own_iushr x4 (8 : Int32)) % (3 : Int32))))), .val (.ref b2), .unset, .unset] []))
          refine own_of (fun _ kk => XS.lload X4.here hx rfl (hb hby at_114) rfl kk) ?_
          show own_Fin _ _ _ _ _ _ _ (T4.setTop (mkF m 116 #[.val (.long x0), .second, .val (.long x1), .second, .val (.long x2), .second, .val (.long x3), .second, .val (.int x4), .val (.long (own_f1 x0 (9223372036854775799 : Int64))), .second, .val (.int ((1 : Int32) + ((own_iushr x4 (8 : Int32)) % (3 : Int32)))), .val (.int ((x4 &&& (255 : Int32)) % ((1 : Int32) + ((own_iushr x4 (8 : Int32)) % (3 : Int32))))), .val (.ref b2), .unset, .unset] [(.long x3)]))
          simp only [own_m0_116a, if_neg c96, if_neg c106] at k5 ⊢
          exact k5
    show own_Fin _ _ _ _ _ _ _ (T4.setTop (mkF m 116 #[.val (.long x0), .second, .val (.long x1), .second, .val (.long x2), .second, .val (.long x3), .second, .val (.int x4), .val (.long (own_f1 x0 (9223372036854775799 : Int64))), .second, .val (.int ((1 : Int32) + ((own_iushr x4 (8 : Int32)) % (3 : Int32)))), .val (.int ((x4 &&& (255 : Int32)) % ((1 : Int32) + ((own_iushr x4 (8 : Int32)) % (3 : Int32))))), .val (.ref b2), .unset, .unset] [(.long (own_m0_116a x4 x1 x2 x3))]))
    refine own_of (fun _ kk => XS.lstore X4.here hx rfl (hb hby at_116) rfl (l' := #[.val (.long x0), .second, .val (.long x1), .second, .val (.long x2), .second, .val (.long x3), .second, .val (.int x4), .val (.long (own_f1 x0 (9223372036854775799 : Int64))), .second, .val (.int ((1 : Int32) + ((own_iushr x4 (8 : Int32)) % (3 : Int32)))), .val (.int ((x4 &&& (255 : Int32)) % ((1 : Int32) + ((own_iushr x4 (8 : Int32)) % (3 : Int32))))), .val (.ref b2), .val (.long (own_m0_116a x4 x1 x2 x3)), .second]) rfl kk) ?_
    show own_Fin _ _ _ _ _ _ _ (T4.setTop (mkF m 118 #[.val (.long x0), .second, .val (.long x1), .second, .val (.long x2), .second, .val (.long x3), .second, .val (.int x4), .val (.long (own_f1 x0 (9223372036854775799 : Int64))), .second, .val (.int ((1 : Int32) + ((own_iushr x4 (8 : Int32)) % (3 : Int32)))), .val (.int ((x4 &&& (255 : Int32)) % ((1 : Int32) + ((own_iushr x4 (8 : Int32)) % (3 : Int32))))), .val (.ref b2), .val (.long (own_m0_116a x4 x1 x2 x3)), .second] []))
    refine own_of (fun _ kk => XS.aload X4.here hx rfl (hb hby at_118) rfl rfl kk) ?_
    show own_Fin _ _ _ _ _ _ _ (T4.setTop (mkF m 120 #[.val (.long x0), .second, .val (.long x1), .second, .val (.long x2), .second, .val (.long x3), .second, .val (.int x4), .val (.long (own_f1 x0 (9223372036854775799 : Int64))), .second, .val (.int ((1 : Int32) + ((own_iushr x4 (8 : Int32)) % (3 : Int32)))), .val (.int ((x4 &&& (255 : Int32)) % ((1 : Int32) + ((own_iushr x4 (8 : Int32)) % (3 : Int32))))), .val (.ref b2), .val (.long (own_m0_116a x4 x1 x2 x3)), .second] [(.ref b2)]))
    refine own_of (fun _ kk => XS.lload X4.here hx rfl (hb hby at_120) rfl kk) ?_
    show own_Fin _ _ _ _ _ _ _ (T4.setTop (mkF m 122 #[.val (.long x0), .second, .val (.long x1), .second, .val (.long x2), .second, .val (.long x3), .second, .val (.int x4), .val (.long (own_f1 x0 (9223372036854775799 : Int64))), .second, .val (.int ((1 : Int32) + ((own_iushr x4 (8 : Int32)) % (3 : Int32)))), .val (.int ((x4 &&& (255 : Int32)) % ((1 : Int32) + ((own_iushr x4 (8 : Int32)) % (3 : Int32))))), .val (.ref b2), .val (.long (own_m0_116a x4 x1 x2 x3)), .second] [(.long (own_f1 x0 (9223372036854775799 : Int64))), (.ref b2)]))
    refine own_of (fun _ kk => XS.iload X4.here hx rfl (hb hby at_122) rfl kk) ?_
    show own_Fin _ _ _ _ _ _ _ (T4.setTop (mkF m 124 #[.val (.long x0), .second, .val (.long x1), .second, .val (.long x2), .second, .val (.long x3), .second, .val (.int x4), .val (.long (own_f1 x0 (9223372036854775799 : Int64))), .second, .val (.int ((1 : Int32) + ((own_iushr x4 (8 : Int32)) % (3 : Int32)))), .val (.int ((x4 &&& (255 : Int32)) % ((1 : Int32) + ((own_iushr x4 (8 : Int32)) % (3 : Int32))))), .val (.ref b2), .val (.long (own_m0_116a x4 x1 x2 x3)), .second] [(.int ((x4 &&& (255 : Int32)) % ((1 : Int32) + ((own_iushr x4 (8 : Int32)) % (3 : Int32))))), (.long (own_f1 x0 (9223372036854775799 : Int64))), (.ref b2)]))
    refine own_of (fun _ kk => XS.i2l X4.here hx rfl (hb hby at_124) rfl kk) ?_
    show own_Fin _ _ _ _ _ _ _ (T4.setTop (mkF m 125 #[.val (.long x0), .second, .val (.long x1), .second, .val (.long x2), .second, .val (.long x3), .second, .val (.int x4), .val (.long (own_f1 x0 (9223372036854775799 : Int64))), .second, .val (.int ((1 : Int32) + ((own_iushr x4 (8 : Int32)) % (3 : Int32)))), .val (.int ((x4 &&& (255 : Int32)) % ((1 : Int32) + ((own_iushr x4 (8 : Int32)) % (3 : Int32))))), .val (.ref b2), .val (.long (own_m0_116a x4 x1 x2 x3)), .second] [(.long ((x4 &&& (255 : Int32)) % ((1 : Int32) + ((own_iushr x4 (8 : Int32)) % (3 : Int32)))).toInt64), (.long (own_f1 x0 (9223372036854775799 : Int64))), (.ref b2)]))
    refine own_of (fun _ kk => XS.ladd X4.here hx rfl (hb hby at_125) rfl kk) ?_
    show own_Fin _ _ _ _ _ _ _ (T4.setTop (mkF m 126 #[.val (.long x0), .second, .val (.long x1), .second, .val (.long x2), .second, .val (.long x3), .second, .val (.int x4), .val (.long (own_f1 x0 (9223372036854775799 : Int64))), .second, .val (.int ((1 : Int32) + ((own_iushr x4 (8 : Int32)) % (3 : Int32)))), .val (.int ((x4 &&& (255 : Int32)) % ((1 : Int32) + ((own_iushr x4 (8 : Int32)) % (3 : Int32))))), .val (.ref b2), .val (.long (own_m0_116a x4 x1 x2 x3)), .second] [(.long ((own_f1 x0 (9223372036854775799 : Int64)) + ((x4 &&& (255 : Int32)) % ((1 : Int32) + ((own_iushr x4 (8 : Int32)) % (3 : Int32)))).toInt64)), (.ref b2)]))
    refine own_callV X4 hx hZ (y := (⟨"com/example/log_to_queue/logtoqueue/queue/IndexEntries", "logPosition", "(J)J"⟩ : MethodName)) (z := (⟨"com/example/log_to_queue/logtoqueue/queue/IndexEntries", "logPosition", "(J)J"⟩ : MethodName)) hown (hw _ (List.mem_of_getElem? (i := 31) rfl)) (hw _ (List.mem_of_getElem? (i := 32) rfl)) (notFace_of_selects (args := #[]) (mvT hZ (hw _ (List.mem_of_getElem? (i := 34) rfl)))) (hw _ (List.mem_of_getElem? (i := 34) rfl)) (hw _ (List.mem_of_getElem? (i := 33) rfl)) (hw _ (List.mem_of_getElem? (i := 7) rfl)) (hw _ (List.mem_of_getElem? (i := 35) rfl)) (by decide) e4 O4.1 (argsL := [(.long ((own_f1 x0 (9223372036854775799 : Int64)) + ((x4 &&& (255 : Int32)) % ((1 : Int32) + ((own_iushr x4 (8 : Int32)) % (3 : Int32)))).toInt64))]) (met5 l Z a0 hw b2 ((own_f1 x0 (9223372036854775799 : Int64)) + ((x4 &&& (255 : Int32)) % ((1 : Int32) + ((own_iushr x4 (8 : Int32)) % (3 : Int32)))).toInt64) (own_f1 x0 (9223372036854775799 : Int64)) ((0 : Int32) + 1) a1 a2 a3 (fun j => if j = 0 then x1 else (fun _ => (0 : Int64)) j) (fun j => if j = 0 then x4 else (fun _ => (0 : Int32)) j) (fun j => if j = 0 then (x4 ^^^ (-1 : Int32)) else (fun _ => (0 : Int32)) j) (own_k x4).toInt.toNat (own_m0_116a x4 x1 x2 x3) h4 n0 Z4 O4 (own_hj _ _ (own_kr x4).1 (own_b3 x4)) (by have := own_b3 x4; omega) (own_hv1 x1 x2 x3 (own_k x4) (own_kr x4).1 (own_b1 x4 c57))) (W := 0) (by decide) (by decide) (by decide) (by decide) (by rw [hml]; rfl) pd_1 rfl (rest := []) rfl (Nat.le_of_eq rfl) (hb hby at_126) ?_
    intro v6 T6 h6 L6 X6 e6 q6
    obtain ⟨rfl, qh6, rfl⟩ := q6
    rw [qh6] at e6
    have N6 := Fr.app N4 (Fr.nil n0)
    show own_Fin _ _ _ _ _ _ _ (T6.setTop (mkF m 129 #[.val (.long x0), .second, .val (.long x1), .second, .val (.long x2), .second, .val (.long x3), .second, .val (.int x4), .val (.long (own_f1 x0 (9223372036854775799 : Int64))), .second, .val (.int ((1 : Int32) + ((own_iushr x4 (8 : Int32)) % (3 : Int32)))), .val (.int ((x4 &&& (255 : Int32)) % ((1 : Int32) + ((own_iushr x4 (8 : Int32)) % (3 : Int32))))), .val (.ref b2), .val (.long (own_m0_116a x4 x1 x2 x3)), .second] [(.long (own_m0_116a x4 x1 x2 x3))]))
    refine own_of (fun _ kk => XS.lload X6.here hx rfl (hb hby at_129) rfl kk) ?_
    show own_Fin _ _ _ _ _ _ _ (T6.setTop (mkF m 131 #[.val (.long x0), .second, .val (.long x1), .second, .val (.long x2), .second, .val (.long x3), .second, .val (.int x4), .val (.long (own_f1 x0 (9223372036854775799 : Int64))), .second, .val (.int ((1 : Int32) + ((own_iushr x4 (8 : Int32)) % (3 : Int32)))), .val (.int ((x4 &&& (255 : Int32)) % ((1 : Int32) + ((own_iushr x4 (8 : Int32)) % (3 : Int32))))), .val (.ref b2), .val (.long (own_m0_116a x4 x1 x2 x3)), .second] [(.long (own_m0_116a x4 x1 x2 x3)), (.long (own_m0_116a x4 x1 x2 x3))]))
    refine own_of (fun _ kk => XS.lcmp X6.here hx rfl (hb hby at_131) rfl kk) ?_
    show own_Fin _ _ _ _ _ _ _ (T6.setTop (mkF m 132 #[.val (.long x0), .second, .val (.long x1), .second, .val (.long x2), .second, .val (.long x3), .second, .val (.int x4), .val (.long (own_f1 x0 (9223372036854775799 : Int64))), .second, .val (.int ((1 : Int32) + ((own_iushr x4 (8 : Int32)) % (3 : Int32)))), .val (.int ((x4 &&& (255 : Int32)) % ((1 : Int32) + ((own_iushr x4 (8 : Int32)) % (3 : Int32))))), .val (.ref b2), .val (.long (own_m0_116a x4 x1 x2 x3)), .second] [(.int (lcmpW (own_m0_116a x4 x1 x2 x3) (own_m0_116a x4 x1 x2 x3)))]))
    refine own_of (fun _ kk => XS.ifNo X6.here hx rfl (hb hby at_132) rfl ((if0 _ _).trans (teq ((lw_eq _ _).mpr rfl)).2) kk) ?_
    show own_Fin _ _ _ _ _ _ _ (T6.setTop (mkF m 135 #[.val (.long x0), .second, .val (.long x1), .second, .val (.long x2), .second, .val (.long x3), .second, .val (.int x4), .val (.long (own_f1 x0 (9223372036854775799 : Int64))), .second, .val (.int ((1 : Int32) + ((own_iushr x4 (8 : Int32)) % (3 : Int32)))), .val (.int ((x4 &&& (255 : Int32)) % ((1 : Int32) + ((own_iushr x4 (8 : Int32)) % (3 : Int32))))), .val (.ref b2), .val (.long (own_m0_116a x4 x1 x2 x3)), .second] []))
    refine own_of (fun _ kk => XS.iconst X6.here hx rfl (hb hby at_135) kk) ?_
    show own_Fin _ _ _ _ _ _ _ (T6.setTop (mkF m 136 #[.val (.long x0), .second, .val (.long x1), .second, .val (.long x2), .second, .val (.long x3), .second, .val (.int x4), .val (.long (own_f1 x0 (9223372036854775799 : Int64))), .second, .val (.int ((1 : Int32) + ((own_iushr x4 (8 : Int32)) % (3 : Int32)))), .val (.int ((x4 &&& (255 : Int32)) % ((1 : Int32) + ((own_iushr x4 (8 : Int32)) % (3 : Int32))))), .val (.ref b2), .val (.long (own_m0_116a x4 x1 x2 x3)), .second] [(.int (1 : Int32))]))
    refine own_of (fun _ kk => XS.goto X6.here hx rfl (pc0 := 136) (pc' := 140) rfl (hb hby at_136) (by decide) (by decide) kk) ?_
    show own_Fin _ _ _ _ _ _ _ (T6.setTop (mkF m 140 #[.val (.long x0), .second, .val (.long x1), .second, .val (.long x2), .second, .val (.long x3), .second, .val (.int x4), .val (.long (own_f1 x0 (9223372036854775799 : Int64))), .second, .val (.int ((1 : Int32) + ((own_iushr x4 (8 : Int32)) % (3 : Int32)))), .val (.int ((x4 &&& (255 : Int32)) % ((1 : Int32) + ((own_iushr x4 (8 : Int32)) % (3 : Int32))))), .val (.ref b2), .val (.long (own_m0_116a x4 x1 x2 x3)), .second] [(.int (1 : Int32))]))
    exact own_retN X6 hx hlk e6 (t := .boolean) hret (by simp) (hb hby at_140) (by decide) (by decide) (z' := (1 : Int32)) (by decide) ⟨rfl, N6⟩
  · refine own_of (fun _ kk => XS.icmpNo X4.here hx rfl (hb hby at_57) rfl (flt c57).1 kk) ?_
    show own_Fin _ _ _ _ _ _ _ (T4.setTop (mkF m 60 #[.val (.long x0), .second, .val (.long x1), .second, .val (.long x2), .second, .val (.long x3), .second, .val (.int x4), .val (.long (own_f1 x0 (9223372036854775799 : Int64))), .second, .val (.int ((1 : Int32) + ((own_iushr x4 (8 : Int32)) % (3 : Int32)))), .val (.int ((x4 &&& (255 : Int32)) % ((1 : Int32) + ((own_iushr x4 (8 : Int32)) % (3 : Int32))))), .val (.ref b2), .unset, .unset] []))
    refine own_of (fun _ kk => XS.aload X4.here hx rfl (hb hby at_60) rfl rfl kk) ?_
    show own_Fin _ _ _ _ _ _ _ (T4.setTop (mkF m 62 #[.val (.long x0), .second, .val (.long x1), .second, .val (.long x2), .second, .val (.long x3), .second, .val (.int x4), .val (.long (own_f1 x0 (9223372036854775799 : Int64))), .second, .val (.int ((1 : Int32) + ((own_iushr x4 (8 : Int32)) % (3 : Int32)))), .val (.int ((x4 &&& (255 : Int32)) % ((1 : Int32) + ((own_iushr x4 (8 : Int32)) % (3 : Int32))))), .val (.ref b2), .unset, .unset] [(.ref b2)]))
    refine own_of (fun _ kk => XS.lload X4.here hx rfl (hb hby at_62) rfl kk) ?_
    show own_Fin _ _ _ _ _ _ _ (T4.setTop (mkF m 64 #[.val (.long x0), .second, .val (.long x1), .second, .val (.long x2), .second, .val (.long x3), .second, .val (.int x4), .val (.long (own_f1 x0 (9223372036854775799 : Int64))), .second, .val (.int ((1 : Int32) + ((own_iushr x4 (8 : Int32)) % (3 : Int32)))), .val (.int ((x4 &&& (255 : Int32)) % ((1 : Int32) + ((own_iushr x4 (8 : Int32)) % (3 : Int32))))), .val (.ref b2), .unset, .unset] [(.long x2), (.ref b2)]))
    refine own_of (fun _ kk => XS.iload X4.here hx rfl (hb hby at_64) rfl kk) ?_
    show own_Fin _ _ _ _ _ _ _ (T4.setTop (mkF m 66 #[.val (.long x0), .second, .val (.long x1), .second, .val (.long x2), .second, .val (.long x3), .second, .val (.int x4), .val (.long (own_f1 x0 (9223372036854775799 : Int64))), .second, .val (.int ((1 : Int32) + ((own_iushr x4 (8 : Int32)) % (3 : Int32)))), .val (.int ((x4 &&& (255 : Int32)) % ((1 : Int32) + ((own_iushr x4 (8 : Int32)) % (3 : Int32))))), .val (.ref b2), .unset, .unset] [(.int x4), (.long x2), (.ref b2)]))
    refine own_of (fun _ kk => XS.iconst X4.here hx rfl (hb hby at_66) kk) ?_
    show own_Fin _ _ _ _ _ _ _ (T4.setTop (mkF m 67 #[.val (.long x0), .second, .val (.long x1), .second, .val (.long x2), .second, .val (.long x3), .second, .val (.int x4), .val (.long (own_f1 x0 (9223372036854775799 : Int64))), .second, .val (.int ((1 : Int32) + ((own_iushr x4 (8 : Int32)) % (3 : Int32)))), .val (.int ((x4 &&& (255 : Int32)) % ((1 : Int32) + ((own_iushr x4 (8 : Int32)) % (3 : Int32))))), .val (.ref b2), .unset, .unset] [(.int (1 : Int32)), (.int x4), (.long x2), (.ref b2)]))
    refine own_of (fun _ kk => XS.ixor X4.here hx rfl (hb hby at_67) rfl kk) ?_
    show own_Fin _ _ _ _ _ _ _ (T4.setTop (mkF m 68 #[.val (.long x0), .second, .val (.long x1), .second, .val (.long x2), .second, .val (.long x3), .second, .val (.int x4), .val (.long (own_f1 x0 (9223372036854775799 : Int64))), .second, .val (.int ((1 : Int32) + ((own_iushr x4 (8 : Int32)) % (3 : Int32)))), .val (.int ((x4 &&& (255 : Int32)) % ((1 : Int32) + ((own_iushr x4 (8 : Int32)) % (3 : Int32))))), .val (.ref b2), .unset, .unset] [(.int (x4 ^^^ (1 : Int32))), (.long x2), (.ref b2)]))
    refine own_of (fun _ kk => XS.iload X4.here hx rfl (hb hby at_68) rfl kk) ?_
    show own_Fin _ _ _ _ _ _ _ (T4.setTop (mkF m 70 #[.val (.long x0), .second, .val (.long x1), .second, .val (.long x2), .second, .val (.long x3), .second, .val (.int x4), .val (.long (own_f1 x0 (9223372036854775799 : Int64))), .second, .val (.int ((1 : Int32) + ((own_iushr x4 (8 : Int32)) % (3 : Int32)))), .val (.int ((x4 &&& (255 : Int32)) % ((1 : Int32) + ((own_iushr x4 (8 : Int32)) % (3 : Int32))))), .val (.ref b2), .unset, .unset] [(.int x4), (.int (x4 ^^^ (1 : Int32))), (.long x2), (.ref b2)]))
    refine own_callV X4 hx hZ (y := (⟨"com/example/log_to_queue/logtoqueue/queue/IndexEntries", "add", "(JII)V"⟩ : MethodName)) (z := (⟨"com/example/log_to_queue/logtoqueue/queue/IndexEntries", "add", "(JII)V"⟩ : MethodName)) hown (hw _ (List.mem_of_getElem? (i := 24) rfl)) (hw _ (List.mem_of_getElem? (i := 25) rfl)) (notFace_of_selects (args := #[]) (mvT hZ (hw _ (List.mem_of_getElem? (i := 27) rfl)))) (hw _ (List.mem_of_getElem? (i := 27) rfl)) (hw _ (List.mem_of_getElem? (i := 26) rfl)) (hw _ (List.mem_of_getElem? (i := 7) rfl)) (hw _ (List.mem_of_getElem? (i := 28) rfl)) (by decide) e4 O4.1 (argsL := [(.long x2), (.int (x4 ^^^ (1 : Int32))), (.int x4)]) (met4 l Z a0 hw b2 x2 (x4 ^^^ (1 : Int32)) x4 (own_f1 x0 (9223372036854775799 : Int64)) ((0 : Int32) + 1) a1 a2 a3 (fun j => if j = 0 then x1 else (fun _ => (0 : Int64)) j) (fun j => if j = 0 then x4 else (fun _ => (0 : Int32)) j) (fun j => if j = 0 then (x4 ^^^ (-1 : Int32)) else (fun _ => (0 : Int32)) j) 1 h4 n0 Z4 O4 (by decide) (by decide)) (W := 0) (by decide) (by decide) (by decide) (by decide) (by rw [hml]; rfl) pd_3 rfl (rest := []) rfl (Nat.le_of_eq rfl) (hb hby at_70) ?_
    intro v7 T7 h7 L7 X7 e7 q7
    obtain ⟨rfl, N7q, Z7, O7⟩ := q7
    have N7 := Fr.app N4 N7q
    show own_Fin _ _ _ _ _ _ _ (T7.setTop (mkF m 73 #[.val (.long x0), .second, .val (.long x1), .second, .val (.long x2), .second, .val (.long x3), .second, .val (.int x4), .val (.long (own_f1 x0 (9223372036854775799 : Int64))), .second, .val (.int ((1 : Int32) + ((own_iushr x4 (8 : Int32)) % (3 : Int32)))), .val (.int ((x4 &&& (255 : Int32)) % ((1 : Int32) + ((own_iushr x4 (8 : Int32)) % (3 : Int32))))), .val (.ref b2), .unset, .unset] []))
    refine own_of (fun _ kk => XS.iload X7.here hx rfl (hb hby at_73) rfl kk) ?_
    show own_Fin _ _ _ _ _ _ _ (T7.setTop (mkF m 75 #[.val (.long x0), .second, .val (.long x1), .second, .val (.long x2), .second, .val (.long x3), .second, .val (.int x4), .val (.long (own_f1 x0 (9223372036854775799 : Int64))), .second, .val (.int ((1 : Int32) + ((own_iushr x4 (8 : Int32)) % (3 : Int32)))), .val (.int ((x4 &&& (255 : Int32)) % ((1 : Int32) + ((own_iushr x4 (8 : Int32)) % (3 : Int32))))), .val (.ref b2), .unset, .unset] [(.int ((1 : Int32) + ((own_iushr x4 (8 : Int32)) % (3 : Int32))))]))
    refine own_of (fun _ kk => XS.iconst X7.here hx rfl (hb hby at_75) kk) ?_
    show own_Fin _ _ _ _ _ _ _ (T7.setTop (mkF m 76 #[.val (.long x0), .second, .val (.long x1), .second, .val (.long x2), .second, .val (.long x3), .second, .val (.int x4), .val (.long (own_f1 x0 (9223372036854775799 : Int64))), .second, .val (.int ((1 : Int32) + ((own_iushr x4 (8 : Int32)) % (3 : Int32)))), .val (.int ((x4 &&& (255 : Int32)) % ((1 : Int32) + ((own_iushr x4 (8 : Int32)) % (3 : Int32))))), .val (.ref b2), .unset, .unset] [(.int (3 : Int32)), (.int ((1 : Int32) + ((own_iushr x4 (8 : Int32)) % (3 : Int32))))]))
    by_cases c76 : ((1 : Int32) + ((own_iushr x4 (8 : Int32)) % (3 : Int32))) < (3 : Int32)
    · refine own_of (fun _ kk => XS.icmpYes X7.here hx rfl (pc0 := 76) (pc' := 94) rfl (hb hby at_76) rfl (tlt c76).1 (by decide) (by decide) kk) ?_
      show own_Fin _ _ _ _ _ _ _ (T7.setTop (mkF m 94 #[.val (.long x0), .second, .val (.long x1), .second, .val (.long x2), .second, .val (.long x3), .second, .val (.int x4), .val (.long (own_f1 x0 (9223372036854775799 : Int64))), .second, .val (.int ((1 : Int32) + ((own_iushr x4 (8 : Int32)) % (3 : Int32)))), .val (.int ((x4 &&& (255 : Int32)) % ((1 : Int32) + ((own_iushr x4 (8 : Int32)) % (3 : Int32))))), .val (.ref b2), .unset, .unset] []))
      refine own_of (fun _ kk => XS.iload X7.here hx rfl (hb hby at_94) rfl kk) ?_
      show own_Fin _ _ _ _ _ _ _ (T7.setTop (mkF m 96 #[.val (.long x0), .second, .val (.long x1), .second, .val (.long x2), .second, .val (.long x3), .second, .val (.int x4), .val (.long (own_f1 x0 (9223372036854775799 : Int64))), .second, .val (.int ((1 : Int32) + ((own_iushr x4 (8 : Int32)) % (3 : Int32)))), .val (.int ((x4 &&& (255 : Int32)) % ((1 : Int32) + ((own_iushr x4 (8 : Int32)) % (3 : Int32))))), .val (.ref b2), .unset, .unset] [(.int ((x4 &&& (255 : Int32)) % ((1 : Int32) + ((own_iushr x4 (8 : Int32)) % (3 : Int32)))))]))
      suffices k8 : own_Fin _ _ _ _ _ _ _ (T7.setTop (mkF m 116 #[.val (.long x0), .second, .val (.long x1), .second, .val (.long x2), .second, .val (.long x3), .second, .val (.int x4), .val (.long (own_f1 x0 (9223372036854775799 : Int64))), .second, .val (.int ((1 : Int32) + ((own_iushr x4 (8 : Int32)) % (3 : Int32)))), .val (.int ((x4 &&& (255 : Int32)) % ((1 : Int32) + ((own_iushr x4 (8 : Int32)) % (3 : Int32))))), .val (.ref b2), .unset, .unset] [(.long (own_m0_116a x4 x1 x2 x3))])) by
        by_cases c96 : ((x4 &&& (255 : Int32)) % ((1 : Int32) + ((own_iushr x4 (8 : Int32)) % (3 : Int32)))) = (0 : Int32)
        · refine own_of (fun _ kk => XS.ifNo X7.here hx rfl (hb hby at_96) rfl ((if0 _ _).trans (teq c96).2) kk) ?_
          show own_Fin _ _ _ _ _ _ _ (T7.setTop (mkF m 99 #[.val (.long x0), .second, .val (.long x1), .second, .val (.long x2), .second, .val (.long x3), .second, .val (.int x4), .val (.long (own_f1 x0 (9223372036854775799 : Int64))), .second, .val (.int ((1 : Int32) + ((own_iushr x4 (8 : Int32)) % (3 : Int32)))), .val (.int ((x4 &&& (255 : Int32)) % ((1 : Int32) + ((own_iushr x4 (8 : Int32)) % (3 : Int32))))), .val (.ref b2), .unset, .unset] []))
          refine own_of (fun _ kk => XS.lloadN X7.here hx rfl (hb hby at_99) rfl kk) ?_
          show own_Fin _ _ _ _ _ _ _ (T7.setTop (mkF m 100 #[.val (.long x0), .second, .val (.long x1), .second, .val (.long x2), .second, .val (.long x3), .second, .val (.int x4), .val (.long (own_f1 x0 (9223372036854775799 : Int64))), .second, .val (.int ((1 : Int32) + ((own_iushr x4 (8 : Int32)) % (3 : Int32)))), .val (.int ((x4 &&& (255 : Int32)) % ((1 : Int32) + ((own_iushr x4 (8 : Int32)) % (3 : Int32))))), .val (.ref b2), .unset, .unset] [(.long x1)]))
          refine own_of (fun _ kk => XS.goto X7.here hx rfl (pc0 := 100) (pc' := 116) rfl (hb hby at_100) (by decide) (by decide) kk) ?_
          show own_Fin _ _ _ _ _ _ _ (T7.setTop (mkF m 116 #[.val (.long x0), .second, .val (.long x1), .second, .val (.long x2), .second, .val (.long x3), .second, .val (.int x4), .val (.long (own_f1 x0 (9223372036854775799 : Int64))), .second, .val (.int ((1 : Int32) + ((own_iushr x4 (8 : Int32)) % (3 : Int32)))), .val (.int ((x4 &&& (255 : Int32)) % ((1 : Int32) + ((own_iushr x4 (8 : Int32)) % (3 : Int32))))), .val (.ref b2), .unset, .unset] [(.long x1)]))
          simp only [own_m0_116a, if_pos c96] at k8 ⊢
          exact k8
        · refine own_of (fun _ kk => XS.ifYes X7.here hx rfl (pc0 := 96) (pc' := 103) rfl (hb hby at_96) rfl ((if0 _ _).trans (feq c96).2) (by decide) (by decide) kk) ?_
          show own_Fin _ _ _ _ _ _ _ (T7.setTop (mkF m 103 #[.val (.long x0), .second, .val (.long x1), .second, .val (.long x2), .second, .val (.long x3), .second, .val (.int x4), .val (.long (own_f1 x0 (9223372036854775799 : Int64))), .second, .val (.int ((1 : Int32) + ((own_iushr x4 (8 : Int32)) % (3 : Int32)))), .val (.int ((x4 &&& (255 : Int32)) % ((1 : Int32) + ((own_iushr x4 (8 : Int32)) % (3 : Int32))))), .val (.ref b2), .unset, .unset] []))
          refine own_of (fun _ kk => XS.iload X7.here hx rfl (hb hby at_103) rfl kk) ?_
          show own_Fin _ _ _ _ _ _ _ (T7.setTop (mkF m 105 #[.val (.long x0), .second, .val (.long x1), .second, .val (.long x2), .second, .val (.long x3), .second, .val (.int x4), .val (.long (own_f1 x0 (9223372036854775799 : Int64))), .second, .val (.int ((1 : Int32) + ((own_iushr x4 (8 : Int32)) % (3 : Int32)))), .val (.int ((x4 &&& (255 : Int32)) % ((1 : Int32) + ((own_iushr x4 (8 : Int32)) % (3 : Int32))))), .val (.ref b2), .unset, .unset] [(.int ((x4 &&& (255 : Int32)) % ((1 : Int32) + ((own_iushr x4 (8 : Int32)) % (3 : Int32)))))]))
          refine own_of (fun _ kk => XS.iconst X7.here hx rfl (hb hby at_105) kk) ?_
          show own_Fin _ _ _ _ _ _ _ (T7.setTop (mkF m 106 #[.val (.long x0), .second, .val (.long x1), .second, .val (.long x2), .second, .val (.long x3), .second, .val (.int x4), .val (.long (own_f1 x0 (9223372036854775799 : Int64))), .second, .val (.int ((1 : Int32) + ((own_iushr x4 (8 : Int32)) % (3 : Int32)))), .val (.int ((x4 &&& (255 : Int32)) % ((1 : Int32) + ((own_iushr x4 (8 : Int32)) % (3 : Int32))))), .val (.ref b2), .unset, .unset] [(.int (1 : Int32)), (.int ((x4 &&& (255 : Int32)) % ((1 : Int32) + ((own_iushr x4 (8 : Int32)) % (3 : Int32)))))]))
          by_cases c106 : ((x4 &&& (255 : Int32)) % ((1 : Int32) + ((own_iushr x4 (8 : Int32)) % (3 : Int32)))) = (1 : Int32)
          · refine own_of (fun _ kk => XS.icmpNo X7.here hx rfl (hb hby at_106) rfl (teq c106).2 kk) ?_
            show own_Fin _ _ _ _ _ _ _ (T7.setTop (mkF m 109 #[.val (.long x0), .second, .val (.long x1), .second, .val (.long x2), .second, .val (.long x3), .second, .val (.int x4), .val (.long (own_f1 x0 (9223372036854775799 : Int64))), .second, .val (.int ((1 : Int32) + ((own_iushr x4 (8 : Int32)) % (3 : Int32)))), .val (.int ((x4 &&& (255 : Int32)) % ((1 : Int32) + ((own_iushr x4 (8 : Int32)) % (3 : Int32))))), .val (.ref b2), .unset, .unset] []))
            refine own_of (fun _ kk => XS.lload X7.here hx rfl (hb hby at_109) rfl kk) ?_
            show own_Fin _ _ _ _ _ _ _ (T7.setTop (mkF m 111 #[.val (.long x0), .second, .val (.long x1), .second, .val (.long x2), .second, .val (.long x3), .second, .val (.int x4), .val (.long (own_f1 x0 (9223372036854775799 : Int64))), .second, .val (.int ((1 : Int32) + ((own_iushr x4 (8 : Int32)) % (3 : Int32)))), .val (.int ((x4 &&& (255 : Int32)) % ((1 : Int32) + ((own_iushr x4 (8 : Int32)) % (3 : Int32))))), .val (.ref b2), .unset, .unset] [(.long x2)]))
            refine own_of (fun _ kk => XS.goto X7.here hx rfl (pc0 := 111) (pc' := 116) rfl (hb hby at_111) (by decide) (by decide) kk) ?_
            show own_Fin _ _ _ _ _ _ _ (T7.setTop (mkF m 116 #[.val (.long x0), .second, .val (.long x1), .second, .val (.long x2), .second, .val (.long x3), .second, .val (.int x4), .val (.long (own_f1 x0 (9223372036854775799 : Int64))), .second, .val (.int ((1 : Int32) + ((own_iushr x4 (8 : Int32)) % (3 : Int32)))), .val (.int ((x4 &&& (255 : Int32)) % ((1 : Int32) + ((own_iushr x4 (8 : Int32)) % (3 : Int32))))), .val (.ref b2), .unset, .unset] [(.long x2)]))
            simp only [own_m0_116a, if_neg c96, if_pos c106] at k8 ⊢
            exact k8
          · refine own_of (fun _ kk => XS.icmpYes X7.here hx rfl (pc0 := 106) (pc' := 114) rfl (hb hby at_106) rfl (feq c106).2 (by decide) (by decide) kk) ?_
            show own_Fin _ _ _ _ _ _ _ (T7.setTop (mkF m 114 #[.val (.long x0), .second, .val (.long x1), .second, .val (.long x2), .second, .val (.long x3), .second, .val (.int x4), .val (.long (own_f1 x0 (9223372036854775799 : Int64))), .second, .val (.int ((1 : Int32) + ((own_iushr x4 (8 : Int32)) % (3 : Int32)))), .val (.int ((x4 &&& (255 : Int32)) % ((1 : Int32) + ((own_iushr x4 (8 : Int32)) % (3 : Int32))))), .val (.ref b2), .unset, .unset] []))
            refine own_of (fun _ kk => XS.lload X7.here hx rfl (hb hby at_114) rfl kk) ?_
            show own_Fin _ _ _ _ _ _ _ (T7.setTop (mkF m 116 #[.val (.long x0), .second, .val (.long x1), .second, .val (.long x2), .second, .val (.long x3), .second, .val (.int x4), .val (.long (own_f1 x0 (9223372036854775799 : Int64))), .second, .val (.int ((1 : Int32) + ((own_iushr x4 (8 : Int32)) % (3 : Int32)))), .val (.int ((x4 &&& (255 : Int32)) % ((1 : Int32) + ((own_iushr x4 (8 : Int32)) % (3 : Int32))))), .val (.ref b2), .unset, .unset] [(.long x3)]))
            simp only [own_m0_116a, if_neg c96, if_neg c106] at k8 ⊢
            exact k8
      show own_Fin _ _ _ _ _ _ _ (T7.setTop (mkF m 116 #[.val (.long x0), .second, .val (.long x1), .second, .val (.long x2), .second, .val (.long x3), .second, .val (.int x4), .val (.long (own_f1 x0 (9223372036854775799 : Int64))), .second, .val (.int ((1 : Int32) + ((own_iushr x4 (8 : Int32)) % (3 : Int32)))), .val (.int ((x4 &&& (255 : Int32)) % ((1 : Int32) + ((own_iushr x4 (8 : Int32)) % (3 : Int32))))), .val (.ref b2), .unset, .unset] [(.long (own_m0_116a x4 x1 x2 x3))]))
      refine own_of (fun _ kk => XS.lstore X7.here hx rfl (hb hby at_116) rfl (l' := #[.val (.long x0), .second, .val (.long x1), .second, .val (.long x2), .second, .val (.long x3), .second, .val (.int x4), .val (.long (own_f1 x0 (9223372036854775799 : Int64))), .second, .val (.int ((1 : Int32) + ((own_iushr x4 (8 : Int32)) % (3 : Int32)))), .val (.int ((x4 &&& (255 : Int32)) % ((1 : Int32) + ((own_iushr x4 (8 : Int32)) % (3 : Int32))))), .val (.ref b2), .val (.long (own_m0_116a x4 x1 x2 x3)), .second]) rfl kk) ?_
      show own_Fin _ _ _ _ _ _ _ (T7.setTop (mkF m 118 #[.val (.long x0), .second, .val (.long x1), .second, .val (.long x2), .second, .val (.long x3), .second, .val (.int x4), .val (.long (own_f1 x0 (9223372036854775799 : Int64))), .second, .val (.int ((1 : Int32) + ((own_iushr x4 (8 : Int32)) % (3 : Int32)))), .val (.int ((x4 &&& (255 : Int32)) % ((1 : Int32) + ((own_iushr x4 (8 : Int32)) % (3 : Int32))))), .val (.ref b2), .val (.long (own_m0_116a x4 x1 x2 x3)), .second] []))
      refine own_of (fun _ kk => XS.aload X7.here hx rfl (hb hby at_118) rfl rfl kk) ?_
      show own_Fin _ _ _ _ _ _ _ (T7.setTop (mkF m 120 #[.val (.long x0), .second, .val (.long x1), .second, .val (.long x2), .second, .val (.long x3), .second, .val (.int x4), .val (.long (own_f1 x0 (9223372036854775799 : Int64))), .second, .val (.int ((1 : Int32) + ((own_iushr x4 (8 : Int32)) % (3 : Int32)))), .val (.int ((x4 &&& (255 : Int32)) % ((1 : Int32) + ((own_iushr x4 (8 : Int32)) % (3 : Int32))))), .val (.ref b2), .val (.long (own_m0_116a x4 x1 x2 x3)), .second] [(.ref b2)]))
      refine own_of (fun _ kk => XS.lload X7.here hx rfl (hb hby at_120) rfl kk) ?_
      show own_Fin _ _ _ _ _ _ _ (T7.setTop (mkF m 122 #[.val (.long x0), .second, .val (.long x1), .second, .val (.long x2), .second, .val (.long x3), .second, .val (.int x4), .val (.long (own_f1 x0 (9223372036854775799 : Int64))), .second, .val (.int ((1 : Int32) + ((own_iushr x4 (8 : Int32)) % (3 : Int32)))), .val (.int ((x4 &&& (255 : Int32)) % ((1 : Int32) + ((own_iushr x4 (8 : Int32)) % (3 : Int32))))), .val (.ref b2), .val (.long (own_m0_116a x4 x1 x2 x3)), .second] [(.long (own_f1 x0 (9223372036854775799 : Int64))), (.ref b2)]))
      refine own_of (fun _ kk => XS.iload X7.here hx rfl (hb hby at_122) rfl kk) ?_
      show own_Fin _ _ _ _ _ _ _ (T7.setTop (mkF m 124 #[.val (.long x0), .second, .val (.long x1), .second, .val (.long x2), .second, .val (.long x3), .second, .val (.int x4), .val (.long (own_f1 x0 (9223372036854775799 : Int64))), .second, .val (.int ((1 : Int32) + ((own_iushr x4 (8 : Int32)) % (3 : Int32)))), .val (.int ((x4 &&& (255 : Int32)) % ((1 : Int32) + ((own_iushr x4 (8 : Int32)) % (3 : Int32))))), .val (.ref b2), .val (.long (own_m0_116a x4 x1 x2 x3)), .second] [(.int ((x4 &&& (255 : Int32)) % ((1 : Int32) + ((own_iushr x4 (8 : Int32)) % (3 : Int32))))), (.long (own_f1 x0 (9223372036854775799 : Int64))), (.ref b2)]))
      refine own_of (fun _ kk => XS.i2l X7.here hx rfl (hb hby at_124) rfl kk) ?_
      show own_Fin _ _ _ _ _ _ _ (T7.setTop (mkF m 125 #[.val (.long x0), .second, .val (.long x1), .second, .val (.long x2), .second, .val (.long x3), .second, .val (.int x4), .val (.long (own_f1 x0 (9223372036854775799 : Int64))), .second, .val (.int ((1 : Int32) + ((own_iushr x4 (8 : Int32)) % (3 : Int32)))), .val (.int ((x4 &&& (255 : Int32)) % ((1 : Int32) + ((own_iushr x4 (8 : Int32)) % (3 : Int32))))), .val (.ref b2), .val (.long (own_m0_116a x4 x1 x2 x3)), .second] [(.long ((x4 &&& (255 : Int32)) % ((1 : Int32) + ((own_iushr x4 (8 : Int32)) % (3 : Int32)))).toInt64), (.long (own_f1 x0 (9223372036854775799 : Int64))), (.ref b2)]))
      refine own_of (fun _ kk => XS.ladd X7.here hx rfl (hb hby at_125) rfl kk) ?_
      show own_Fin _ _ _ _ _ _ _ (T7.setTop (mkF m 126 #[.val (.long x0), .second, .val (.long x1), .second, .val (.long x2), .second, .val (.long x3), .second, .val (.int x4), .val (.long (own_f1 x0 (9223372036854775799 : Int64))), .second, .val (.int ((1 : Int32) + ((own_iushr x4 (8 : Int32)) % (3 : Int32)))), .val (.int ((x4 &&& (255 : Int32)) % ((1 : Int32) + ((own_iushr x4 (8 : Int32)) % (3 : Int32))))), .val (.ref b2), .val (.long (own_m0_116a x4 x1 x2 x3)), .second] [(.long ((own_f1 x0 (9223372036854775799 : Int64)) + ((x4 &&& (255 : Int32)) % ((1 : Int32) + ((own_iushr x4 (8 : Int32)) % (3 : Int32)))).toInt64)), (.ref b2)]))
      refine own_callV X7 hx hZ (y := (⟨"com/example/log_to_queue/logtoqueue/queue/IndexEntries", "logPosition", "(J)J"⟩ : MethodName)) (z := (⟨"com/example/log_to_queue/logtoqueue/queue/IndexEntries", "logPosition", "(J)J"⟩ : MethodName)) hown (hw _ (List.mem_of_getElem? (i := 31) rfl)) (hw _ (List.mem_of_getElem? (i := 32) rfl)) (notFace_of_selects (args := #[]) (mvT hZ (hw _ (List.mem_of_getElem? (i := 34) rfl)))) (hw _ (List.mem_of_getElem? (i := 34) rfl)) (hw _ (List.mem_of_getElem? (i := 33) rfl)) (hw _ (List.mem_of_getElem? (i := 7) rfl)) (hw _ (List.mem_of_getElem? (i := 35) rfl)) (by decide) e7 O7.1 (argsL := [(.long ((own_f1 x0 (9223372036854775799 : Int64)) + ((x4 &&& (255 : Int32)) % ((1 : Int32) + ((own_iushr x4 (8 : Int32)) % (3 : Int32)))).toInt64))]) (met5 l Z a0 hw b2 ((own_f1 x0 (9223372036854775799 : Int64)) + ((x4 &&& (255 : Int32)) % ((1 : Int32) + ((own_iushr x4 (8 : Int32)) % (3 : Int32)))).toInt64) (own_f1 x0 (9223372036854775799 : Int64)) (((0 : Int32) + 1) + 1) a1 a2 a3 (fun j => if j = 1 then x2 else (fun j => if j = 0 then x1 else (fun _ => (0 : Int64)) j) j) (fun j => if j = 1 then (x4 ^^^ (1 : Int32)) else (fun j => if j = 0 then x4 else (fun _ => (0 : Int32)) j) j) (fun j => if j = 1 then x4 else (fun j => if j = 0 then (x4 ^^^ (-1 : Int32)) else (fun _ => (0 : Int32)) j) j) (own_k x4).toInt.toNat (own_m0_116a x4 x1 x2 x3) h7 n0 Z7 O7 (own_hj _ _ (own_kr x4).1 (own_b3 x4)) (by have := own_b3 x4; omega) (own_hv2 x1 x2 x3 (own_k x4) (own_kr x4).1 (own_b2 x4 c76))) (W := 0) (by decide) (by decide) (by decide) (by decide) (by rw [hml]; rfl) pd_1 rfl (rest := []) rfl (Nat.le_of_eq rfl) (hb hby at_126) ?_
      intro v9 T9 h9 L9 X9 e9 q9
      obtain ⟨rfl, qh9, rfl⟩ := q9
      rw [qh9] at e9
      have N9 := Fr.app N7 (Fr.nil n0)
      show own_Fin _ _ _ _ _ _ _ (T9.setTop (mkF m 129 #[.val (.long x0), .second, .val (.long x1), .second, .val (.long x2), .second, .val (.long x3), .second, .val (.int x4), .val (.long (own_f1 x0 (9223372036854775799 : Int64))), .second, .val (.int ((1 : Int32) + ((own_iushr x4 (8 : Int32)) % (3 : Int32)))), .val (.int ((x4 &&& (255 : Int32)) % ((1 : Int32) + ((own_iushr x4 (8 : Int32)) % (3 : Int32))))), .val (.ref b2), .val (.long (own_m0_116a x4 x1 x2 x3)), .second] [(.long (own_m0_116a x4 x1 x2 x3))]))
      refine own_of (fun _ kk => XS.lload X9.here hx rfl (hb hby at_129) rfl kk) ?_
      show own_Fin _ _ _ _ _ _ _ (T9.setTop (mkF m 131 #[.val (.long x0), .second, .val (.long x1), .second, .val (.long x2), .second, .val (.long x3), .second, .val (.int x4), .val (.long (own_f1 x0 (9223372036854775799 : Int64))), .second, .val (.int ((1 : Int32) + ((own_iushr x4 (8 : Int32)) % (3 : Int32)))), .val (.int ((x4 &&& (255 : Int32)) % ((1 : Int32) + ((own_iushr x4 (8 : Int32)) % (3 : Int32))))), .val (.ref b2), .val (.long (own_m0_116a x4 x1 x2 x3)), .second] [(.long (own_m0_116a x4 x1 x2 x3)), (.long (own_m0_116a x4 x1 x2 x3))]))
      refine own_of (fun _ kk => XS.lcmp X9.here hx rfl (hb hby at_131) rfl kk) ?_
      show own_Fin _ _ _ _ _ _ _ (T9.setTop (mkF m 132 #[.val (.long x0), .second, .val (.long x1), .second, .val (.long x2), .second, .val (.long x3), .second, .val (.int x4), .val (.long (own_f1 x0 (9223372036854775799 : Int64))), .second, .val (.int ((1 : Int32) + ((own_iushr x4 (8 : Int32)) % (3 : Int32)))), .val (.int ((x4 &&& (255 : Int32)) % ((1 : Int32) + ((own_iushr x4 (8 : Int32)) % (3 : Int32))))), .val (.ref b2), .val (.long (own_m0_116a x4 x1 x2 x3)), .second] [(.int (lcmpW (own_m0_116a x4 x1 x2 x3) (own_m0_116a x4 x1 x2 x3)))]))
      refine own_of (fun _ kk => XS.ifNo X9.here hx rfl (hb hby at_132) rfl ((if0 _ _).trans (teq ((lw_eq _ _).mpr rfl)).2) kk) ?_
      show own_Fin _ _ _ _ _ _ _ (T9.setTop (mkF m 135 #[.val (.long x0), .second, .val (.long x1), .second, .val (.long x2), .second, .val (.long x3), .second, .val (.int x4), .val (.long (own_f1 x0 (9223372036854775799 : Int64))), .second, .val (.int ((1 : Int32) + ((own_iushr x4 (8 : Int32)) % (3 : Int32)))), .val (.int ((x4 &&& (255 : Int32)) % ((1 : Int32) + ((own_iushr x4 (8 : Int32)) % (3 : Int32))))), .val (.ref b2), .val (.long (own_m0_116a x4 x1 x2 x3)), .second] []))
      refine own_of (fun _ kk => XS.iconst X9.here hx rfl (hb hby at_135) kk) ?_
      show own_Fin _ _ _ _ _ _ _ (T9.setTop (mkF m 136 #[.val (.long x0), .second, .val (.long x1), .second, .val (.long x2), .second, .val (.long x3), .second, .val (.int x4), .val (.long (own_f1 x0 (9223372036854775799 : Int64))), .second, .val (.int ((1 : Int32) + ((own_iushr x4 (8 : Int32)) % (3 : Int32)))), .val (.int ((x4 &&& (255 : Int32)) % ((1 : Int32) + ((own_iushr x4 (8 : Int32)) % (3 : Int32))))), .val (.ref b2), .val (.long (own_m0_116a x4 x1 x2 x3)), .second] [(.int (1 : Int32))]))
      refine own_of (fun _ kk => XS.goto X9.here hx rfl (pc0 := 136) (pc' := 140) rfl (hb hby at_136) (by decide) (by decide) kk) ?_
      show own_Fin _ _ _ _ _ _ _ (T9.setTop (mkF m 140 #[.val (.long x0), .second, .val (.long x1), .second, .val (.long x2), .second, .val (.long x3), .second, .val (.int x4), .val (.long (own_f1 x0 (9223372036854775799 : Int64))), .second, .val (.int ((1 : Int32) + ((own_iushr x4 (8 : Int32)) % (3 : Int32)))), .val (.int ((x4 &&& (255 : Int32)) % ((1 : Int32) + ((own_iushr x4 (8 : Int32)) % (3 : Int32))))), .val (.ref b2), .val (.long (own_m0_116a x4 x1 x2 x3)), .second] [(.int (1 : Int32))]))
      exact own_retN X9 hx hlk e9 (t := .boolean) hret (by simp) (hb hby at_140) (by decide) (by decide) (z' := (1 : Int32)) (by decide) ⟨rfl, N9⟩
    · refine own_of (fun _ kk => XS.icmpNo X7.here hx rfl (hb hby at_76) rfl (flt c76).1 kk) ?_
      show own_Fin _ _ _ _ _ _ _ (T7.setTop (mkF m 79 #[.val (.long x0), .second, .val (.long x1), .second, .val (.long x2), .second, .val (.long x3), .second, .val (.int x4), .val (.long (own_f1 x0 (9223372036854775799 : Int64))), .second, .val (.int ((1 : Int32) + ((own_iushr x4 (8 : Int32)) % (3 : Int32)))), .val (.int ((x4 &&& (255 : Int32)) % ((1 : Int32) + ((own_iushr x4 (8 : Int32)) % (3 : Int32))))), .val (.ref b2), .unset, .unset] []))
      refine own_of (fun _ kk => XS.aload X7.here hx rfl (hb hby at_79) rfl rfl kk) ?_
      show own_Fin _ _ _ _ _ _ _ (T7.setTop (mkF m 81 #[.val (.long x0), .second, .val (.long x1), .second, .val (.long x2), .second, .val (.long x3), .second, .val (.int x4), .val (.long (own_f1 x0 (9223372036854775799 : Int64))), .second, .val (.int ((1 : Int32) + ((own_iushr x4 (8 : Int32)) % (3 : Int32)))), .val (.int ((x4 &&& (255 : Int32)) % ((1 : Int32) + ((own_iushr x4 (8 : Int32)) % (3 : Int32))))), .val (.ref b2), .unset, .unset] [(.ref b2)]))
      refine own_of (fun _ kk => XS.lload X7.here hx rfl (hb hby at_81) rfl kk) ?_
      show own_Fin _ _ _ _ _ _ _ (T7.setTop (mkF m 83 #[.val (.long x0), .second, .val (.long x1), .second, .val (.long x2), .second, .val (.long x3), .second, .val (.int x4), .val (.long (own_f1 x0 (9223372036854775799 : Int64))), .second, .val (.int ((1 : Int32) + ((own_iushr x4 (8 : Int32)) % (3 : Int32)))), .val (.int ((x4 &&& (255 : Int32)) % ((1 : Int32) + ((own_iushr x4 (8 : Int32)) % (3 : Int32))))), .val (.ref b2), .unset, .unset] [(.long x3), (.ref b2)]))
      refine own_of (fun _ kk => XS.iload X7.here hx rfl (hb hby at_83) rfl kk) ?_
      show own_Fin _ _ _ _ _ _ _ (T7.setTop (mkF m 85 #[.val (.long x0), .second, .val (.long x1), .second, .val (.long x2), .second, .val (.long x3), .second, .val (.int x4), .val (.long (own_f1 x0 (9223372036854775799 : Int64))), .second, .val (.int ((1 : Int32) + ((own_iushr x4 (8 : Int32)) % (3 : Int32)))), .val (.int ((x4 &&& (255 : Int32)) % ((1 : Int32) + ((own_iushr x4 (8 : Int32)) % (3 : Int32))))), .val (.ref b2), .unset, .unset] [(.int x4), (.long x3), (.ref b2)]))
      refine own_of (fun _ kk => XS.iconst X7.here hx rfl (hb hby at_85) kk) ?_
      show own_Fin _ _ _ _ _ _ _ (T7.setTop (mkF m 86 #[.val (.long x0), .second, .val (.long x1), .second, .val (.long x2), .second, .val (.long x3), .second, .val (.int x4), .val (.long (own_f1 x0 (9223372036854775799 : Int64))), .second, .val (.int ((1 : Int32) + ((own_iushr x4 (8 : Int32)) % (3 : Int32)))), .val (.int ((x4 &&& (255 : Int32)) % ((1 : Int32) + ((own_iushr x4 (8 : Int32)) % (3 : Int32))))), .val (.ref b2), .unset, .unset] [(.int (2 : Int32)), (.int x4), (.long x3), (.ref b2)]))
      refine own_of (fun _ kk => XS.ixor X7.here hx rfl (hb hby at_86) rfl kk) ?_
      show own_Fin _ _ _ _ _ _ _ (T7.setTop (mkF m 87 #[.val (.long x0), .second, .val (.long x1), .second, .val (.long x2), .second, .val (.long x3), .second, .val (.int x4), .val (.long (own_f1 x0 (9223372036854775799 : Int64))), .second, .val (.int ((1 : Int32) + ((own_iushr x4 (8 : Int32)) % (3 : Int32)))), .val (.int ((x4 &&& (255 : Int32)) % ((1 : Int32) + ((own_iushr x4 (8 : Int32)) % (3 : Int32))))), .val (.ref b2), .unset, .unset] [(.int (x4 ^^^ (2 : Int32))), (.long x3), (.ref b2)]))
      refine own_of (fun _ kk => XS.iload X7.here hx rfl (hb hby at_87) rfl kk) ?_
      show own_Fin _ _ _ _ _ _ _ (T7.setTop (mkF m 89 #[.val (.long x0), .second, .val (.long x1), .second, .val (.long x2), .second, .val (.long x3), .second, .val (.int x4), .val (.long (own_f1 x0 (9223372036854775799 : Int64))), .second, .val (.int ((1 : Int32) + ((own_iushr x4 (8 : Int32)) % (3 : Int32)))), .val (.int ((x4 &&& (255 : Int32)) % ((1 : Int32) + ((own_iushr x4 (8 : Int32)) % (3 : Int32))))), .val (.ref b2), .unset, .unset] [(.int x4), (.int (x4 ^^^ (2 : Int32))), (.long x3), (.ref b2)]))
      refine own_of (fun _ kk => XS.iconst X7.here hx rfl (hb hby at_89) kk) ?_
      show own_Fin _ _ _ _ _ _ _ (T7.setTop (mkF m 90 #[.val (.long x0), .second, .val (.long x1), .second, .val (.long x2), .second, .val (.long x3), .second, .val (.int x4), .val (.long (own_f1 x0 (9223372036854775799 : Int64))), .second, .val (.int ((1 : Int32) + ((own_iushr x4 (8 : Int32)) % (3 : Int32)))), .val (.int ((x4 &&& (255 : Int32)) % ((1 : Int32) + ((own_iushr x4 (8 : Int32)) % (3 : Int32))))), .val (.ref b2), .unset, .unset] [(.int (1 : Int32)), (.int x4), (.int (x4 ^^^ (2 : Int32))), (.long x3), (.ref b2)]))
      refine own_of (fun _ kk => XS.iadd X7.here hx rfl (hb hby at_90) rfl kk) ?_
      show own_Fin _ _ _ _ _ _ _ (T7.setTop (mkF m 91 #[.val (.long x0), .second, .val (.long x1), .second, .val (.long x2), .second, .val (.long x3), .second, .val (.int x4), .val (.long (own_f1 x0 (9223372036854775799 : Int64))), .second, .val (.int ((1 : Int32) + ((own_iushr x4 (8 : Int32)) % (3 : Int32)))), .val (.int ((x4 &&& (255 : Int32)) % ((1 : Int32) + ((own_iushr x4 (8 : Int32)) % (3 : Int32))))), .val (.ref b2), .unset, .unset] [(.int (x4 + (1 : Int32))), (.int (x4 ^^^ (2 : Int32))), (.long x3), (.ref b2)]))
      refine own_callV X7 hx hZ (y := (⟨"com/example/log_to_queue/logtoqueue/queue/IndexEntries", "add", "(JII)V"⟩ : MethodName)) (z := (⟨"com/example/log_to_queue/logtoqueue/queue/IndexEntries", "add", "(JII)V"⟩ : MethodName)) hown (hw _ (List.mem_of_getElem? (i := 24) rfl)) (hw _ (List.mem_of_getElem? (i := 25) rfl)) (notFace_of_selects (args := #[]) (mvT hZ (hw _ (List.mem_of_getElem? (i := 27) rfl)))) (hw _ (List.mem_of_getElem? (i := 27) rfl)) (hw _ (List.mem_of_getElem? (i := 26) rfl)) (hw _ (List.mem_of_getElem? (i := 7) rfl)) (hw _ (List.mem_of_getElem? (i := 28) rfl)) (by decide) e7 O7.1 (argsL := [(.long x3), (.int (x4 ^^^ (2 : Int32))), (.int (x4 + (1 : Int32)))]) (met4 l Z a0 hw b2 x3 (x4 ^^^ (2 : Int32)) (x4 + (1 : Int32)) (own_f1 x0 (9223372036854775799 : Int64)) (((0 : Int32) + 1) + 1) a1 a2 a3 (fun j => if j = 1 then x2 else (fun j => if j = 0 then x1 else (fun _ => (0 : Int64)) j) j) (fun j => if j = 1 then (x4 ^^^ (1 : Int32)) else (fun j => if j = 0 then x4 else (fun _ => (0 : Int32)) j) j) (fun j => if j = 1 then x4 else (fun j => if j = 0 then (x4 ^^^ (-1 : Int32)) else (fun _ => (0 : Int32)) j) j) 2 h7 n0 Z7 O7 (by decide) (by decide)) (W := 0) (by decide) (by decide) (by decide) (by decide) (by rw [hml]; rfl) pd_3 rfl (rest := []) rfl (Nat.le_of_eq rfl) (hb hby at_91) ?_
      intro v10 T10 h10 L10 X10 e10 q10
      obtain ⟨rfl, N10q, Z10, O10⟩ := q10
      have N10 := Fr.app N7 N10q
      show own_Fin _ _ _ _ _ _ _ (T10.setTop (mkF m 94 #[.val (.long x0), .second, .val (.long x1), .second, .val (.long x2), .second, .val (.long x3), .second, .val (.int x4), .val (.long (own_f1 x0 (9223372036854775799 : Int64))), .second, .val (.int ((1 : Int32) + ((own_iushr x4 (8 : Int32)) % (3 : Int32)))), .val (.int ((x4 &&& (255 : Int32)) % ((1 : Int32) + ((own_iushr x4 (8 : Int32)) % (3 : Int32))))), .val (.ref b2), .unset, .unset] []))
      refine own_of (fun _ kk => XS.iload X10.here hx rfl (hb hby at_94) rfl kk) ?_
      show own_Fin _ _ _ _ _ _ _ (T10.setTop (mkF m 96 #[.val (.long x0), .second, .val (.long x1), .second, .val (.long x2), .second, .val (.long x3), .second, .val (.int x4), .val (.long (own_f1 x0 (9223372036854775799 : Int64))), .second, .val (.int ((1 : Int32) + ((own_iushr x4 (8 : Int32)) % (3 : Int32)))), .val (.int ((x4 &&& (255 : Int32)) % ((1 : Int32) + ((own_iushr x4 (8 : Int32)) % (3 : Int32))))), .val (.ref b2), .unset, .unset] [(.int ((x4 &&& (255 : Int32)) % ((1 : Int32) + ((own_iushr x4 (8 : Int32)) % (3 : Int32)))))]))
      suffices k11 : own_Fin _ _ _ _ _ _ _ (T10.setTop (mkF m 116 #[.val (.long x0), .second, .val (.long x1), .second, .val (.long x2), .second, .val (.long x3), .second, .val (.int x4), .val (.long (own_f1 x0 (9223372036854775799 : Int64))), .second, .val (.int ((1 : Int32) + ((own_iushr x4 (8 : Int32)) % (3 : Int32)))), .val (.int ((x4 &&& (255 : Int32)) % ((1 : Int32) + ((own_iushr x4 (8 : Int32)) % (3 : Int32))))), .val (.ref b2), .unset, .unset] [(.long (own_m0_116a x4 x1 x2 x3))])) by
        by_cases c96 : ((x4 &&& (255 : Int32)) % ((1 : Int32) + ((own_iushr x4 (8 : Int32)) % (3 : Int32)))) = (0 : Int32)
        · refine own_of (fun _ kk => XS.ifNo X10.here hx rfl (hb hby at_96) rfl ((if0 _ _).trans (teq c96).2) kk) ?_
          show own_Fin _ _ _ _ _ _ _ (T10.setTop (mkF m 99 #[.val (.long x0), .second, .val (.long x1), .second, .val (.long x2), .second, .val (.long x3), .second, .val (.int x4), .val (.long (own_f1 x0 (9223372036854775799 : Int64))), .second, .val (.int ((1 : Int32) + ((own_iushr x4 (8 : Int32)) % (3 : Int32)))), .val (.int ((x4 &&& (255 : Int32)) % ((1 : Int32) + ((own_iushr x4 (8 : Int32)) % (3 : Int32))))), .val (.ref b2), .unset, .unset] []))
          refine own_of (fun _ kk => XS.lloadN X10.here hx rfl (hb hby at_99) rfl kk) ?_
          show own_Fin _ _ _ _ _ _ _ (T10.setTop (mkF m 100 #[.val (.long x0), .second, .val (.long x1), .second, .val (.long x2), .second, .val (.long x3), .second, .val (.int x4), .val (.long (own_f1 x0 (9223372036854775799 : Int64))), .second, .val (.int ((1 : Int32) + ((own_iushr x4 (8 : Int32)) % (3 : Int32)))), .val (.int ((x4 &&& (255 : Int32)) % ((1 : Int32) + ((own_iushr x4 (8 : Int32)) % (3 : Int32))))), .val (.ref b2), .unset, .unset] [(.long x1)]))
          refine own_of (fun _ kk => XS.goto X10.here hx rfl (pc0 := 100) (pc' := 116) rfl (hb hby at_100) (by decide) (by decide) kk) ?_
          show own_Fin _ _ _ _ _ _ _ (T10.setTop (mkF m 116 #[.val (.long x0), .second, .val (.long x1), .second, .val (.long x2), .second, .val (.long x3), .second, .val (.int x4), .val (.long (own_f1 x0 (9223372036854775799 : Int64))), .second, .val (.int ((1 : Int32) + ((own_iushr x4 (8 : Int32)) % (3 : Int32)))), .val (.int ((x4 &&& (255 : Int32)) % ((1 : Int32) + ((own_iushr x4 (8 : Int32)) % (3 : Int32))))), .val (.ref b2), .unset, .unset] [(.long x1)]))
          simp only [own_m0_116a, if_pos c96] at k11 ⊢
          exact k11
        · refine own_of (fun _ kk => XS.ifYes X10.here hx rfl (pc0 := 96) (pc' := 103) rfl (hb hby at_96) rfl ((if0 _ _).trans (feq c96).2) (by decide) (by decide) kk) ?_
          show own_Fin _ _ _ _ _ _ _ (T10.setTop (mkF m 103 #[.val (.long x0), .second, .val (.long x1), .second, .val (.long x2), .second, .val (.long x3), .second, .val (.int x4), .val (.long (own_f1 x0 (9223372036854775799 : Int64))), .second, .val (.int ((1 : Int32) + ((own_iushr x4 (8 : Int32)) % (3 : Int32)))), .val (.int ((x4 &&& (255 : Int32)) % ((1 : Int32) + ((own_iushr x4 (8 : Int32)) % (3 : Int32))))), .val (.ref b2), .unset, .unset] []))
          refine own_of (fun _ kk => XS.iload X10.here hx rfl (hb hby at_103) rfl kk) ?_
          show own_Fin _ _ _ _ _ _ _ (T10.setTop (mkF m 105 #[.val (.long x0), .second, .val (.long x1), .second, .val (.long x2), .second, .val (.long x3), .second, .val (.int x4), .val (.long (own_f1 x0 (9223372036854775799 : Int64))), .second, .val (.int ((1 : Int32) + ((own_iushr x4 (8 : Int32)) % (3 : Int32)))), .val (.int ((x4 &&& (255 : Int32)) % ((1 : Int32) + ((own_iushr x4 (8 : Int32)) % (3 : Int32))))), .val (.ref b2), .unset, .unset] [(.int ((x4 &&& (255 : Int32)) % ((1 : Int32) + ((own_iushr x4 (8 : Int32)) % (3 : Int32)))))]))
          refine own_of (fun _ kk => XS.iconst X10.here hx rfl (hb hby at_105) kk) ?_
          show own_Fin _ _ _ _ _ _ _ (T10.setTop (mkF m 106 #[.val (.long x0), .second, .val (.long x1), .second, .val (.long x2), .second, .val (.long x3), .second, .val (.int x4), .val (.long (own_f1 x0 (9223372036854775799 : Int64))), .second, .val (.int ((1 : Int32) + ((own_iushr x4 (8 : Int32)) % (3 : Int32)))), .val (.int ((x4 &&& (255 : Int32)) % ((1 : Int32) + ((own_iushr x4 (8 : Int32)) % (3 : Int32))))), .val (.ref b2), .unset, .unset] [(.int (1 : Int32)), (.int ((x4 &&& (255 : Int32)) % ((1 : Int32) + ((own_iushr x4 (8 : Int32)) % (3 : Int32)))))]))
          by_cases c106 : ((x4 &&& (255 : Int32)) % ((1 : Int32) + ((own_iushr x4 (8 : Int32)) % (3 : Int32)))) = (1 : Int32)
          · refine own_of (fun _ kk => XS.icmpNo X10.here hx rfl (hb hby at_106) rfl (teq c106).2 kk) ?_
            show own_Fin _ _ _ _ _ _ _ (T10.setTop (mkF m 109 #[.val (.long x0), .second, .val (.long x1), .second, .val (.long x2), .second, .val (.long x3), .second, .val (.int x4), .val (.long (own_f1 x0 (9223372036854775799 : Int64))), .second, .val (.int ((1 : Int32) + ((own_iushr x4 (8 : Int32)) % (3 : Int32)))), .val (.int ((x4 &&& (255 : Int32)) % ((1 : Int32) + ((own_iushr x4 (8 : Int32)) % (3 : Int32))))), .val (.ref b2), .unset, .unset] []))
            refine own_of (fun _ kk => XS.lload X10.here hx rfl (hb hby at_109) rfl kk) ?_
            show own_Fin _ _ _ _ _ _ _ (T10.setTop (mkF m 111 #[.val (.long x0), .second, .val (.long x1), .second, .val (.long x2), .second, .val (.long x3), .second, .val (.int x4), .val (.long (own_f1 x0 (9223372036854775799 : Int64))), .second, .val (.int ((1 : Int32) + ((own_iushr x4 (8 : Int32)) % (3 : Int32)))), .val (.int ((x4 &&& (255 : Int32)) % ((1 : Int32) + ((own_iushr x4 (8 : Int32)) % (3 : Int32))))), .val (.ref b2), .unset, .unset] [(.long x2)]))
            refine own_of (fun _ kk => XS.goto X10.here hx rfl (pc0 := 111) (pc' := 116) rfl (hb hby at_111) (by decide) (by decide) kk) ?_
            show own_Fin _ _ _ _ _ _ _ (T10.setTop (mkF m 116 #[.val (.long x0), .second, .val (.long x1), .second, .val (.long x2), .second, .val (.long x3), .second, .val (.int x4), .val (.long (own_f1 x0 (9223372036854775799 : Int64))), .second, .val (.int ((1 : Int32) + ((own_iushr x4 (8 : Int32)) % (3 : Int32)))), .val (.int ((x4 &&& (255 : Int32)) % ((1 : Int32) + ((own_iushr x4 (8 : Int32)) % (3 : Int32))))), .val (.ref b2), .unset, .unset] [(.long x2)]))
            simp only [own_m0_116a, if_neg c96, if_pos c106] at k11 ⊢
            exact k11
          · refine own_of (fun _ kk => XS.icmpYes X10.here hx rfl (pc0 := 106) (pc' := 114) rfl (hb hby at_106) rfl (feq c106).2 (by decide) (by decide) kk) ?_
            show own_Fin _ _ _ _ _ _ _ (T10.setTop (mkF m 114 #[.val (.long x0), .second, .val (.long x1), .second, .val (.long x2), .second, .val (.long x3), .second, .val (.int x4), .val (.long (own_f1 x0 (9223372036854775799 : Int64))), .second, .val (.int ((1 : Int32) + ((own_iushr x4 (8 : Int32)) % (3 : Int32)))), .val (.int ((x4 &&& (255 : Int32)) % ((1 : Int32) + ((own_iushr x4 (8 : Int32)) % (3 : Int32))))), .val (.ref b2), .unset, .unset] []))
            refine own_of (fun _ kk => XS.lload X10.here hx rfl (hb hby at_114) rfl kk) ?_
            show own_Fin _ _ _ _ _ _ _ (T10.setTop (mkF m 116 #[.val (.long x0), .second, .val (.long x1), .second, .val (.long x2), .second, .val (.long x3), .second, .val (.int x4), .val (.long (own_f1 x0 (9223372036854775799 : Int64))), .second, .val (.int ((1 : Int32) + ((own_iushr x4 (8 : Int32)) % (3 : Int32)))), .val (.int ((x4 &&& (255 : Int32)) % ((1 : Int32) + ((own_iushr x4 (8 : Int32)) % (3 : Int32))))), .val (.ref b2), .unset, .unset] [(.long x3)]))
            simp only [own_m0_116a, if_neg c96, if_neg c106] at k11 ⊢
            exact k11
      show own_Fin _ _ _ _ _ _ _ (T10.setTop (mkF m 116 #[.val (.long x0), .second, .val (.long x1), .second, .val (.long x2), .second, .val (.long x3), .second, .val (.int x4), .val (.long (own_f1 x0 (9223372036854775799 : Int64))), .second, .val (.int ((1 : Int32) + ((own_iushr x4 (8 : Int32)) % (3 : Int32)))), .val (.int ((x4 &&& (255 : Int32)) % ((1 : Int32) + ((own_iushr x4 (8 : Int32)) % (3 : Int32))))), .val (.ref b2), .unset, .unset] [(.long (own_m0_116a x4 x1 x2 x3))]))
      refine own_of (fun _ kk => XS.lstore X10.here hx rfl (hb hby at_116) rfl (l' := #[.val (.long x0), .second, .val (.long x1), .second, .val (.long x2), .second, .val (.long x3), .second, .val (.int x4), .val (.long (own_f1 x0 (9223372036854775799 : Int64))), .second, .val (.int ((1 : Int32) + ((own_iushr x4 (8 : Int32)) % (3 : Int32)))), .val (.int ((x4 &&& (255 : Int32)) % ((1 : Int32) + ((own_iushr x4 (8 : Int32)) % (3 : Int32))))), .val (.ref b2), .val (.long (own_m0_116a x4 x1 x2 x3)), .second]) rfl kk) ?_
      show own_Fin _ _ _ _ _ _ _ (T10.setTop (mkF m 118 #[.val (.long x0), .second, .val (.long x1), .second, .val (.long x2), .second, .val (.long x3), .second, .val (.int x4), .val (.long (own_f1 x0 (9223372036854775799 : Int64))), .second, .val (.int ((1 : Int32) + ((own_iushr x4 (8 : Int32)) % (3 : Int32)))), .val (.int ((x4 &&& (255 : Int32)) % ((1 : Int32) + ((own_iushr x4 (8 : Int32)) % (3 : Int32))))), .val (.ref b2), .val (.long (own_m0_116a x4 x1 x2 x3)), .second] []))
      refine own_of (fun _ kk => XS.aload X10.here hx rfl (hb hby at_118) rfl rfl kk) ?_
      show own_Fin _ _ _ _ _ _ _ (T10.setTop (mkF m 120 #[.val (.long x0), .second, .val (.long x1), .second, .val (.long x2), .second, .val (.long x3), .second, .val (.int x4), .val (.long (own_f1 x0 (9223372036854775799 : Int64))), .second, .val (.int ((1 : Int32) + ((own_iushr x4 (8 : Int32)) % (3 : Int32)))), .val (.int ((x4 &&& (255 : Int32)) % ((1 : Int32) + ((own_iushr x4 (8 : Int32)) % (3 : Int32))))), .val (.ref b2), .val (.long (own_m0_116a x4 x1 x2 x3)), .second] [(.ref b2)]))
      refine own_of (fun _ kk => XS.lload X10.here hx rfl (hb hby at_120) rfl kk) ?_
      show own_Fin _ _ _ _ _ _ _ (T10.setTop (mkF m 122 #[.val (.long x0), .second, .val (.long x1), .second, .val (.long x2), .second, .val (.long x3), .second, .val (.int x4), .val (.long (own_f1 x0 (9223372036854775799 : Int64))), .second, .val (.int ((1 : Int32) + ((own_iushr x4 (8 : Int32)) % (3 : Int32)))), .val (.int ((x4 &&& (255 : Int32)) % ((1 : Int32) + ((own_iushr x4 (8 : Int32)) % (3 : Int32))))), .val (.ref b2), .val (.long (own_m0_116a x4 x1 x2 x3)), .second] [(.long (own_f1 x0 (9223372036854775799 : Int64))), (.ref b2)]))
      refine own_of (fun _ kk => XS.iload X10.here hx rfl (hb hby at_122) rfl kk) ?_
      show own_Fin _ _ _ _ _ _ _ (T10.setTop (mkF m 124 #[.val (.long x0), .second, .val (.long x1), .second, .val (.long x2), .second, .val (.long x3), .second, .val (.int x4), .val (.long (own_f1 x0 (9223372036854775799 : Int64))), .second, .val (.int ((1 : Int32) + ((own_iushr x4 (8 : Int32)) % (3 : Int32)))), .val (.int ((x4 &&& (255 : Int32)) % ((1 : Int32) + ((own_iushr x4 (8 : Int32)) % (3 : Int32))))), .val (.ref b2), .val (.long (own_m0_116a x4 x1 x2 x3)), .second] [(.int ((x4 &&& (255 : Int32)) % ((1 : Int32) + ((own_iushr x4 (8 : Int32)) % (3 : Int32))))), (.long (own_f1 x0 (9223372036854775799 : Int64))), (.ref b2)]))
      refine own_of (fun _ kk => XS.i2l X10.here hx rfl (hb hby at_124) rfl kk) ?_
      show own_Fin _ _ _ _ _ _ _ (T10.setTop (mkF m 125 #[.val (.long x0), .second, .val (.long x1), .second, .val (.long x2), .second, .val (.long x3), .second, .val (.int x4), .val (.long (own_f1 x0 (9223372036854775799 : Int64))), .second, .val (.int ((1 : Int32) + ((own_iushr x4 (8 : Int32)) % (3 : Int32)))), .val (.int ((x4 &&& (255 : Int32)) % ((1 : Int32) + ((own_iushr x4 (8 : Int32)) % (3 : Int32))))), .val (.ref b2), .val (.long (own_m0_116a x4 x1 x2 x3)), .second] [(.long ((x4 &&& (255 : Int32)) % ((1 : Int32) + ((own_iushr x4 (8 : Int32)) % (3 : Int32)))).toInt64), (.long (own_f1 x0 (9223372036854775799 : Int64))), (.ref b2)]))
      refine own_of (fun _ kk => XS.ladd X10.here hx rfl (hb hby at_125) rfl kk) ?_
      show own_Fin _ _ _ _ _ _ _ (T10.setTop (mkF m 126 #[.val (.long x0), .second, .val (.long x1), .second, .val (.long x2), .second, .val (.long x3), .second, .val (.int x4), .val (.long (own_f1 x0 (9223372036854775799 : Int64))), .second, .val (.int ((1 : Int32) + ((own_iushr x4 (8 : Int32)) % (3 : Int32)))), .val (.int ((x4 &&& (255 : Int32)) % ((1 : Int32) + ((own_iushr x4 (8 : Int32)) % (3 : Int32))))), .val (.ref b2), .val (.long (own_m0_116a x4 x1 x2 x3)), .second] [(.long ((own_f1 x0 (9223372036854775799 : Int64)) + ((x4 &&& (255 : Int32)) % ((1 : Int32) + ((own_iushr x4 (8 : Int32)) % (3 : Int32)))).toInt64)), (.ref b2)]))
      refine own_callV X10 hx hZ (y := (⟨"com/example/log_to_queue/logtoqueue/queue/IndexEntries", "logPosition", "(J)J"⟩ : MethodName)) (z := (⟨"com/example/log_to_queue/logtoqueue/queue/IndexEntries", "logPosition", "(J)J"⟩ : MethodName)) hown (hw _ (List.mem_of_getElem? (i := 31) rfl)) (hw _ (List.mem_of_getElem? (i := 32) rfl)) (notFace_of_selects (args := #[]) (mvT hZ (hw _ (List.mem_of_getElem? (i := 34) rfl)))) (hw _ (List.mem_of_getElem? (i := 34) rfl)) (hw _ (List.mem_of_getElem? (i := 33) rfl)) (hw _ (List.mem_of_getElem? (i := 7) rfl)) (hw _ (List.mem_of_getElem? (i := 35) rfl)) (by decide) e10 O10.1 (argsL := [(.long ((own_f1 x0 (9223372036854775799 : Int64)) + ((x4 &&& (255 : Int32)) % ((1 : Int32) + ((own_iushr x4 (8 : Int32)) % (3 : Int32)))).toInt64))]) (met5 l Z a0 hw b2 ((own_f1 x0 (9223372036854775799 : Int64)) + ((x4 &&& (255 : Int32)) % ((1 : Int32) + ((own_iushr x4 (8 : Int32)) % (3 : Int32)))).toInt64) (own_f1 x0 (9223372036854775799 : Int64)) ((((0 : Int32) + 1) + 1) + 1) a1 a2 a3 (fun j => if j = 2 then x3 else (fun j => if j = 1 then x2 else (fun j => if j = 0 then x1 else (fun _ => (0 : Int64)) j) j) j) (fun j => if j = 2 then (x4 ^^^ (2 : Int32)) else (fun j => if j = 1 then (x4 ^^^ (1 : Int32)) else (fun j => if j = 0 then x4 else (fun _ => (0 : Int32)) j) j) j) (fun j => if j = 2 then (x4 + (1 : Int32)) else (fun j => if j = 1 then x4 else (fun j => if j = 0 then (x4 ^^^ (-1 : Int32)) else (fun _ => (0 : Int32)) j) j) j) (own_k x4).toInt.toNat (own_m0_116a x4 x1 x2 x3) h10 n0 Z10 O10 (own_hj _ _ (own_kr x4).1 (own_b3 x4)) (by have := own_b3 x4; omega) (own_hv3 x1 x2 x3 (own_k x4) (own_kr x4).1 (own_b3 x4))) (W := 0) (by decide) (by decide) (by decide) (by decide) (by rw [hml]; rfl) pd_1 rfl (rest := []) rfl (Nat.le_of_eq rfl) (hb hby at_126) ?_
      intro v12 T12 h12 L12 X12 e12 q12
      obtain ⟨rfl, qh12, rfl⟩ := q12
      rw [qh12] at e12
      have N12 := Fr.app N10 (Fr.nil n0)
      show own_Fin _ _ _ _ _ _ _ (T12.setTop (mkF m 129 #[.val (.long x0), .second, .val (.long x1), .second, .val (.long x2), .second, .val (.long x3), .second, .val (.int x4), .val (.long (own_f1 x0 (9223372036854775799 : Int64))), .second, .val (.int ((1 : Int32) + ((own_iushr x4 (8 : Int32)) % (3 : Int32)))), .val (.int ((x4 &&& (255 : Int32)) % ((1 : Int32) + ((own_iushr x4 (8 : Int32)) % (3 : Int32))))), .val (.ref b2), .val (.long (own_m0_116a x4 x1 x2 x3)), .second] [(.long (own_m0_116a x4 x1 x2 x3))]))
      refine own_of (fun _ kk => XS.lload X12.here hx rfl (hb hby at_129) rfl kk) ?_
      show own_Fin _ _ _ _ _ _ _ (T12.setTop (mkF m 131 #[.val (.long x0), .second, .val (.long x1), .second, .val (.long x2), .second, .val (.long x3), .second, .val (.int x4), .val (.long (own_f1 x0 (9223372036854775799 : Int64))), .second, .val (.int ((1 : Int32) + ((own_iushr x4 (8 : Int32)) % (3 : Int32)))), .val (.int ((x4 &&& (255 : Int32)) % ((1 : Int32) + ((own_iushr x4 (8 : Int32)) % (3 : Int32))))), .val (.ref b2), .val (.long (own_m0_116a x4 x1 x2 x3)), .second] [(.long (own_m0_116a x4 x1 x2 x3)), (.long (own_m0_116a x4 x1 x2 x3))]))
      refine own_of (fun _ kk => XS.lcmp X12.here hx rfl (hb hby at_131) rfl kk) ?_
      show own_Fin _ _ _ _ _ _ _ (T12.setTop (mkF m 132 #[.val (.long x0), .second, .val (.long x1), .second, .val (.long x2), .second, .val (.long x3), .second, .val (.int x4), .val (.long (own_f1 x0 (9223372036854775799 : Int64))), .second, .val (.int ((1 : Int32) + ((own_iushr x4 (8 : Int32)) % (3 : Int32)))), .val (.int ((x4 &&& (255 : Int32)) % ((1 : Int32) + ((own_iushr x4 (8 : Int32)) % (3 : Int32))))), .val (.ref b2), .val (.long (own_m0_116a x4 x1 x2 x3)), .second] [(.int (lcmpW (own_m0_116a x4 x1 x2 x3) (own_m0_116a x4 x1 x2 x3)))]))
      refine own_of (fun _ kk => XS.ifNo X12.here hx rfl (hb hby at_132) rfl ((if0 _ _).trans (teq ((lw_eq _ _).mpr rfl)).2) kk) ?_
      show own_Fin _ _ _ _ _ _ _ (T12.setTop (mkF m 135 #[.val (.long x0), .second, .val (.long x1), .second, .val (.long x2), .second, .val (.long x3), .second, .val (.int x4), .val (.long (own_f1 x0 (9223372036854775799 : Int64))), .second, .val (.int ((1 : Int32) + ((own_iushr x4 (8 : Int32)) % (3 : Int32)))), .val (.int ((x4 &&& (255 : Int32)) % ((1 : Int32) + ((own_iushr x4 (8 : Int32)) % (3 : Int32))))), .val (.ref b2), .val (.long (own_m0_116a x4 x1 x2 x3)), .second] []))
      refine own_of (fun _ kk => XS.iconst X12.here hx rfl (hb hby at_135) kk) ?_
      show own_Fin _ _ _ _ _ _ _ (T12.setTop (mkF m 136 #[.val (.long x0), .second, .val (.long x1), .second, .val (.long x2), .second, .val (.long x3), .second, .val (.int x4), .val (.long (own_f1 x0 (9223372036854775799 : Int64))), .second, .val (.int ((1 : Int32) + ((own_iushr x4 (8 : Int32)) % (3 : Int32)))), .val (.int ((x4 &&& (255 : Int32)) % ((1 : Int32) + ((own_iushr x4 (8 : Int32)) % (3 : Int32))))), .val (.ref b2), .val (.long (own_m0_116a x4 x1 x2 x3)), .second] [(.int (1 : Int32))]))
      refine own_of (fun _ kk => XS.goto X12.here hx rfl (pc0 := 136) (pc' := 140) rfl (hb hby at_136) (by decide) (by decide) kk) ?_
      show own_Fin _ _ _ _ _ _ _ (T12.setTop (mkF m 140 #[.val (.long x0), .second, .val (.long x1), .second, .val (.long x2), .second, .val (.long x3), .second, .val (.int x4), .val (.long (own_f1 x0 (9223372036854775799 : Int64))), .second, .val (.int ((1 : Int32) + ((own_iushr x4 (8 : Int32)) % (3 : Int32)))), .val (.int ((x4 &&& (255 : Int32)) % ((1 : Int32) + ((own_iushr x4 (8 : Int32)) % (3 : Int32))))), .val (.ref b2), .val (.long (own_m0_116a x4 x1 x2 x3)), .second] [(.int (1 : Int32))]))
      exact own_retN X12 hx hlk e12 (t := .boolean) hret (by simp) (hb hby at_140) (by decide) (by decide) (z' := (1 : Int32)) (by decide) ⟨rfl, N12⟩
set_option maxRecDepth 65536 in
set_option maxHeartbeats 40000000 in
theorem comes_1 {Post : Tables → Env → Array Value → State → Outcome → State → Prop} (hpost : ∀ tb e args s v u, (limb_1_1.after args s (.returned v) u = true ∧ limb_1_2.after args s (.returned v) u = true ∧ True) → FrameEnd s (.returned v) u (Jvm.fieldLocs frame_1_writes args s ++ Jvm.arrayLocs frame_1_arrays args s ++ Jvm.staticLocs frame_1_statics s) 16 192 → Post tb e args s (.returned v) u) :
    ArmFor flags0 classFile x code maxLocals ret World_1 tables_1 room_1 Calls_1 rest_1 Pre_1 Post := by
  intro l hfl _ _ p e ha hc hk s m args below hf hA hF happ hP
  obtain ⟨hcalls, hrest, hpre⟩ := hP
  obtain ⟨-, -, -, hnamed, -, -, -, hat⟩ := (Spec.applies_iff hf).mp happ
  obtain ⟨hg, hn⟩ := and_e (Cond.before_iff.mp (show (Jvm.Cond.and given_1 narrow_1).before args s = true from hpre))
  obtain ⟨g1, g2⟩ := and_e hg
  obtain ⟨g3, g4⟩ := and_e g2
  obtain ⟨g5, g6⟩ := and_e g4
  obtain ⟨g7, g8⟩ := and_e g6
  obtain ⟨g9, g10⟩ := and_e g8
  obtain ⟨w0, w1, w2, w3, w4, rfl⟩ : ∃ w0 w1 w2 w3 w4 : Value, args = #[w0, w1, w2, w3, w4] := by
    have hs : args.size = 5 := by simpa [Cond.value, given_1] using g1
    obtain ⟨L⟩ := args
    match L, hs with
    | [w0, w1, w2, w3, w4], _ => exact ⟨w0, w1, w2, w3, w4, rfl⟩
  have hw := fun d (hd : d ∈ tables_1) => atoms_spec (ws := Jvm.Cond.code x code maxLocals ret :: tables_1) hat d (List.mem_cons_of_mem _ hd)
  obtain ⟨i0, ei0⟩ := isL_v g3
  obtain rfl : w0 = (.long i0) := Option.some.inj ei0
  obtain ⟨i1, ei1⟩ := isL_v g5
  obtain rfl : w1 = (.long i1) := Option.some.inj ei1
  obtain ⟨i2, ei2⟩ := isL_v g7
  obtain rfl : w2 = (.long i2) := Option.some.inj ei2
  obtain ⟨i3, ei3⟩ := isL_v g9
  obtain rfl : w3 = (.long i3) := Option.some.inj ei3
  obtain ⟨i4, ei4⟩ := is_v g10
  obtain rfl : w4 = (.int i4) := Option.some.inj ei4
  obtain ⟨n, o, h1, h2, h3, _, L, rfl, ⟨rfl, N⟩, hq⟩ := own_law l s _ hw i0 i1 i2 i3 i4 s.heap s.heap.size (Nat.le_refl _) tables_1 p e ha hc hk s m _ below hf ((Spec.applies_iff_loose hf).mp happ).1 ⟨rfl, State.Warmed39.refl s, rfl⟩ trivial
  refine ⟨n, _, h1, h2, h3, hpost _ _ _ _ _ _ ⟨Cond.after_iff.mpr rfl, Cond.after_iff.mpr (eq_i res_at (Term.int_eval (1)) rfl), trivial⟩ ⟨hq.1, hq.2.1, (hq.2.2.sift fun y hy => Or.inr (N y hy)).mono (by decide) (by decide)⟩⟩
theorem main_1_1 : Claimed_1_1 := comes_1 fun _ _ _ _ _ _ h hF => ⟨h.1, hF⟩
theorem main_1_2 : Claimed_1_2 := comes_1 fun _ _ _ _ _ _ h hF => ⟨h.2.1, hF⟩
end Jvm.Pilot.@@N@@
namespace Jvm.Pilot.@@N@@
open Jvm Jvm.ClassFile Sem Op Lib Jvm.Free Jvm.Stand Jvm.Pilot.@@N@@.Jvm.D
/-! MADE BY PROGRAM (witnessworld.py) out of the Statement's table words and the real class files: 12 classes; the members and pool entries that the words name. The judged class is class 1, her method 1. -/
namespace start1
open Jvm.ClassFile
def u (s : String) : CpInfo := .utf8 (stringToUtf16 s)
/-- a pool by its gaps: so many unusable entries, then the entry; so many at the end -/
def gap : Nat → List CpInfo → List CpInfo
  | 0, r => r
  | n + 1, r => .unusable :: gap n r
def poolList (es : List (Nat × CpInfo)) (last : Nat) : List CpInfo := es.foldr (fun e r => gap e.1 (e.2 :: r)) (gap last [])
def pool (es : List (Nat × CpInfo)) (last : Nat) : Array CpInfo := ⟨poolList es last⟩
def fileOf (pool : Array CpInfo) (this : Nat) (attrs : Array Attribute := #[]) (ms : Array MethodInfo := #[]) (fl : Nat := 33) (sup : Nat := 0) (ifs : Array Nat := #[]) (fds : Array FieldInfo := #[]) : ClassFile where
  minorVersion := 0
  majorVersion := 65
  constantPool := pool
  accessFlags := fl
  thisClass := this
  superClass := sup
  interfaces := ifs
  fields := fds
  methods := ms
  attributes := attrs
def plain (name : String) (sup : Option ClassId) : Class where
  name := name
  kind := .ordinary
  loader := none
  accessFlags := 33
  super := sup
  interfaces := #[]
  cf := none
  fields := #[]
  methods := #[]
  instanceTypes := #[]
  staticTypes := #[]
  resolved := #[]
  callSites := []
  init := .initialized
  statics := none
  mirror := none

def pool0 : Array CpInfo := pool [(5, u "<init>"), (0, u "()V"), (1, .class_ 10), (1, u "java/lang/Object")] 113

def k0c0 : Code := { maxStack := 0, maxLocals := 1, code := object_method_1_code, exceptionTable := #[], attributes := #[] }
def k0m0 : Method := { name := "<init>", desc := "()V", sig := { parameters := [], returnType := none }, accessFlags := 1, code := some k0c0 }
/-- java/lang/Object -/
def k0 : Class := { plain "java/lang/Object" none with
  accessFlags := 33
  interfaces := #[]
  cf := some (fileOf pool0 8 #[] #[{ accessFlags := 1, nameIndex := 5, descriptorIndex := 6, attributes := #[] }] 33 0 #[] #[])
  fields := #[]
  methods := #[k0m0]
  instanceTypes := #[]
  staticTypes := #[]
  resolved := Array.replicate 124 none
  statics := none }

def pool1 : Array CpInfo := pool [(2, .class_ 4), (1, u "java/lang/Object"), (0, u "<init>"), (0, u "()V"), (2, .long 9223372036854775799), (1, .methodref 12 13), (0, .class_ 14), (0, .nameAndType 15 16), (0, u "java/lang/Math"), (0, u "min"), (0, u "(JJ)J"), (0, .class_ 18), (0, u "com/example/log_to_queue/logtoqueue/queue/IndexEntries"), (0, .methodref 17 20), (0, .nameAndType 5 21), (0, u "(J)V"), (0, .methodref 17 23), (0, .nameAndType 24 25), (0, u "add"), (0, u "(JII)V"), (0, .methodref 17 27), (0, .nameAndType 28 29), (0, u "logPosition"), (0, u "(J)J"), (0, .class_ 31), (0, u "com/example/log_to_queue/logtoqueue/queue/IndexEntriesLogPositionPinLaw"), (2, u "law"), (0, u "(JJJJI)Z")] 3

def k1m0 : Method := { name := "<init>", desc := "()V", sig := { parameters := [], returnType := none }, accessFlags := 1, code := none }
def k1c1 : Code := { maxStack := 6, maxLocals := 16, code := code, exceptionTable := #[], attributes := #[] }
def k1m1 : Method := { name := "law", desc := "(JJJJI)Z", sig := { parameters := [.long, .long, .long, .long, .int], returnType := some .boolean }, accessFlags := 9, code := some k1c1 }
/-- com/example/log_to_queue/logtoqueue/queue/IndexEntriesLogPositionPinLaw -/
def k1 : Class := { plain "com/example/log_to_queue/logtoqueue/queue/IndexEntriesLogPositionPinLaw" (some 0) with
  accessFlags := 49
  interfaces := #[]
  cf := some (fileOf pool1 30 #[] #[{ accessFlags := 1, nameIndex := 5, descriptorIndex := 6, attributes := #[] }, { accessFlags := 9, nameIndex := 34, descriptorIndex := 35, attributes := #[] }] 49 2 #[] #[])
  fields := #[]
  methods := #[k1m0, k1m1]
  instanceTypes := #[]
  staticTypes := #[]
  resolved := Array.replicate 39 none
  statics := none }

def pool2 : Array CpInfo := pool [(1, .class_ 2), (0, u "java/lang/Math"), (1, .class_ 6), (1, u "java/lang/Object"), (0, u "<init>"), (0, u "()V"), (89, .class_ 100), (1, u "java/lang/Math$RandomNumberGeneratorHolder"), (20, u "(JJ)J"), (50, u "negativeZeroFloatBits"), (0, u "J"), (2, u "negativeZeroDoubleBits"), (24, u "min"), (43, u "$assertionsDisabled"), (0, u "Z"), (91, u "twoToTheDoubleScaleDown"), (0, u "D"), (4, u "twoToTheDoubleScaleUp"), (9, u "E"), (3, u "PI"), (2, u "TAU"), (2, u "DEGREES_TO_RADIANS"), (0, u "RADIANS_TO_DEGREES")] 94

def k2m0 : Method := { name := "<init>", desc := "()V", sig := { parameters := [], returnType := none }, accessFlags := 2, code := none }
def k2c1 : Code := { maxStack := 4, maxLocals := 4, code := jdk_29_method_70_code, exceptionTable := #[], attributes := #[] }
def k2m1 : Method := { name := "min", desc := "(JJ)J", sig := { parameters := [.long, .long], returnType := some .long }, accessFlags := 9, code := some k2c1 }
/-- java/lang/Math -/
def k2 : Class := { plain "java/lang/Math" (some 0) with
  accessFlags := 49
  interfaces := #[]
  cf := some (fileOf pool2 1 #[.nestMembers #[98]] #[{ accessFlags := 2, nameIndex := 7, descriptorIndex := 8, attributes := #[] }, { accessFlags := 9, nameIndex := 201, descriptorIndex := 121, attributes := #[] }] 49 4 #[] #[{ accessFlags := 25, nameIndex := 354, descriptorIndex := 339, attributes := #[] }, { accessFlags := 25, nameIndex := 358, descriptorIndex := 339, attributes := #[] }, { accessFlags := 25, nameIndex := 361, descriptorIndex := 339, attributes := #[] }, { accessFlags := 26, nameIndex := 364, descriptorIndex := 339, attributes := #[] }, { accessFlags := 26, nameIndex := 365, descriptorIndex := 339, attributes := #[] }, { accessFlags := 26, nameIndex := 172, descriptorIndex := 173, attributes := #[] }, { accessFlags := 26, nameIndex := 176, descriptorIndex := 173, attributes := #[] }, { accessFlags := 8, nameIndex := 344, descriptorIndex := 339, attributes := #[] }, { accessFlags := 8, nameIndex := 338, descriptorIndex := 339, attributes := #[] }, { accessFlags := 4120, nameIndex := 245, descriptorIndex := 246, attributes := #[] }])
  fields := #[{ name := "E", type := .double, accessFlags := 25, slot := 0, constantValue := 0 }, { name := "PI", type := .double, accessFlags := 25, slot := 1, constantValue := 0 }, { name := "TAU", type := .double, accessFlags := 25, slot := 2, constantValue := 0 }, { name := "DEGREES_TO_RADIANS", type := .double, accessFlags := 26, slot := 3, constantValue := 0 }, { name := "RADIANS_TO_DEGREES", type := .double, accessFlags := 26, slot := 4, constantValue := 0 }, { name := "negativeZeroFloatBits", type := .long, accessFlags := 26, slot := 5, constantValue := 0 }, { name := "negativeZeroDoubleBits", type := .long, accessFlags := 26, slot := 6, constantValue := 0 }, { name := "twoToTheDoubleScaleUp", type := .double, accessFlags := 8, slot := 7, constantValue := 0 }, { name := "twoToTheDoubleScaleDown", type := .double, accessFlags := 8, slot := 8, constantValue := 0 }, { name := "$assertionsDisabled", type := .boolean, accessFlags := 4120, slot := 9, constantValue := 0 }]
  methods := #[k2m0, k2m1]
  instanceTypes := #[]
  staticTypes := #[.double, .double, .double, .double, .double, .long, .long, .double, .double, .boolean]
  resolved := Array.replicate 460 none
  statics := none }

def pool3 : Array CpInfo := pool [(1, .methodref 2 3), (0, .class_ 4), (0, .nameAndType 5 6), (0, u "java/lang/Object"), (0, u "<init>"), (0, u "()V"), (0, .class_ 8), (0, u "com/example/log_to_queue/logtoqueue/queue/IndexEntries"), (0, .fieldref 7 10), (0, .nameAndType 11 12), (0, u "positions"), (0, u "[J"), (0, .fieldref 7 14), (0, .nameAndType 15 16), (0, u "sizes"), (0, u "[I"), (0, .fieldref 7 18), (0, .nameAndType 19 16), (0, u "tagFields"), (0, .fieldref 7 21), (0, .nameAndType 22 23), (0, u "first"), (0, u "J"), (8, u "add"), (0, u "(JII)V"), (0, .fieldref 7 35), (0, .nameAndType 36 37), (0, u "length"), (0, u "I"), (0, .long 2), (3, .long 2147483647), (1, .methodref 45 46), (0, .class_ 47), (0, .nameAndType 48 49), (0, u "java/lang/Math"), (0, u "min"), (0, u "(JJ)J"), (9, u "FIRST_CAPACITY"), (2, u "(J)V"), (6, u "logPosition"), (0, u "(J)J")] 5

def k3c0 : Code := { maxStack := 3, maxLocals := 3, code := prog_63_method_1_code, exceptionTable := #[], attributes := #[] }
def k3m0 : Method := { name := "<init>", desc := "(J)V", sig := { parameters := [.long], returnType := none }, accessFlags := 0, code := some k3c0 }
def k3c1 : Code := { maxStack := 4, maxLocals := 6, code := prog_63_method_3_code, exceptionTable := #[], attributes := #[] }
def k3m1 : Method := { name := "add", desc := "(JII)V", sig := { parameters := [.long, .int, .int], returnType := none }, accessFlags := 0, code := some k3c1 }
def k3c2 : Code := { maxStack := 5, maxLocals := 3, code := prog_63_method_5_code, exceptionTable := #[], attributes := #[] }
def k3m2 : Method := { name := "logPosition", desc := "(J)J", sig := { parameters := [.long], returnType := some .long }, accessFlags := 0, code := some k3c2 }
/-- com/example/log_to_queue/logtoqueue/queue/IndexEntries -/
def k3 : Class := { plain "com/example/log_to_queue/logtoqueue/queue/IndexEntries" (some 0) with
  accessFlags := 32
  interfaces := #[]
  cf := some (fileOf pool3 7 #[] #[{ accessFlags := 0, nameIndex := 5, descriptorIndex := 62, attributes := #[] }, { accessFlags := 0, nameIndex := 32, descriptorIndex := 33, attributes := #[] }, { accessFlags := 0, nameIndex := 69, descriptorIndex := 70, attributes := #[] }] 32 2 #[] #[{ accessFlags := 26, nameIndex := 59, descriptorIndex := 37, attributes := #[] }, { accessFlags := 18, nameIndex := 22, descriptorIndex := 23, attributes := #[] }, { accessFlags := 2, nameIndex := 11, descriptorIndex := 12, attributes := #[] }, { accessFlags := 2, nameIndex := 15, descriptorIndex := 16, attributes := #[] }, { accessFlags := 2, nameIndex := 19, descriptorIndex := 16, attributes := #[] }, { accessFlags := 2, nameIndex := 36, descriptorIndex := 37, attributes := #[] }])
  fields := #[{ name := "FIRST_CAPACITY", type := .int, accessFlags := 26, slot := 0, constantValue := 0 }, { name := "first", type := .long, accessFlags := 18, slot := 0, constantValue := 0 }, { name := "positions", type := (.array .long), accessFlags := 2, slot := 1, constantValue := 0 }, { name := "sizes", type := (.array .int), accessFlags := 2, slot := 2, constantValue := 0 }, { name := "tagFields", type := (.array .int), accessFlags := 2, slot := 3, constantValue := 0 }, { name := "length", type := .int, accessFlags := 2, slot := 4, constantValue := 0 }]
  methods := #[k3m0, k3m1, k3m2]
  instanceTypes := #[.long, (.array .long), (.array .int), (.array .int), .int]
  staticTypes := #[.int]
  resolved := Array.replicate 76 none
  statics := none }

def pool4 : Array CpInfo := pool [(1, u "java/lang/Cloneable"), (0, .class_ 1), (0, u "java/lang/Object"), (0, .class_ 3)] 3

/-- java/lang/Cloneable -/
def k4 : Class := { plain "java/lang/Cloneable" (some 0) with
  accessFlags := 1537
  interfaces := #[]
  cf := some (fileOf pool4 2 #[] #[] 1537 4 #[] #[])
  fields := #[]
  methods := #[]
  instanceTypes := #[]
  staticTypes := #[]
  resolved := Array.replicate 8 none
  statics := none }

def pool5 : Array CpInfo := pool [(1, u "java/io/Serializable"), (0, .class_ 1), (0, u "java/lang/Object"), (0, .class_ 3)] 3

/-- java/io/Serializable -/
def k5 : Class := { plain "java/io/Serializable" (some 0) with
  accessFlags := 1537
  interfaces := #[]
  cf := some (fileOf pool5 2 #[] #[] 1537 4 #[] #[])
  fields := #[]
  methods := #[]
  instanceTypes := #[]
  staticTypes := #[]
  resolved := Array.replicate 8 none
  statics := none }

/-- the primitive byte -/
def k6 : Class := { plain "byte" none with kind := .primitive 'B', accessFlags := 0x411 }
/-- [B -/
def k7 : Class := { plain "[B" (some 0) with kind := .array 6 .byte, interfaces := #[4, 5], accessFlags := 1041 }

/-- the primitive int -/
def k8 : Class := { plain "int" none with kind := .primitive 'I', accessFlags := 0x411 }
/-- [I -/
def k9 : Class := { plain "[I" (some 0) with kind := .array 8 .int, interfaces := #[4, 5], accessFlags := 1041 }

/-- the primitive long -/
def k10 : Class := { plain "long" none with kind := .primitive 'J', accessFlags := 0x411 }
/-- [J -/
def k11 : Class := { plain "[J" (some 0) with kind := .array 10 .long, interfaces := #[4, 5], accessFlags := 1041 }

def heap : Heap := #[]
def classes : Array Class := #[k0, k1, k2, k3, k4, k5, k6, k7, k8, k9, k10, k11]
def interned : List (Array UInt16 × Addr) := []
def slotsUsed : Nat := 0
def theMethod : MethodId := ⟨1, 1⟩
def args0 : Array Value := #[.long 5, .long 7, .long 1, .long 2, .int 3]
def aboutOver (below : List Frame) : State where
  vm := { classes := classes, interned := interned.toArray }
  heap := heap
  slotsUsed := slotsUsed
  threads := #[{ frames := .invoking theMethod args0 :: below }]
def below0 : List Frame := [.native { method := ⟨0, 0⟩, args := #[] }]
def about1 : State := aboutOver below0
def p0 : Program := .bare "" "" ""
def e0 : Env := launch0.env 0 0 0
theorem w_frames : about1.frames = Frame.invoking theMethod args0 :: below0 := rfl
set_option maxRecDepth 65536 in
theorem w_args : argsFit about1.vm theMethod args0 = true := by decide +kernel
set_option maxRecDepth 65536 in
theorem w_heap : heapFits about1 = true := by decide +kernel
set_option maxRecDepth 65536 in
theorem w_runnable : about1.curStatus? = some .runnable := by decide +kernel
set_option maxRecDepth 65536 in
theorem w_alone : about1.alone = true := by decide +kernel
set_option maxRecDepth 65536 in
theorem w_named : about1.methodNamed? x = some theMethod := by decide +kernel
set_option maxRecDepth 65536 in
theorem w_hears : about1.hears theMethod below0 = true := by decide +kernel
set_option maxRecDepth 65536 in
theorem w_ripe : about1.ripe theMethod args0 below0 = true := by decide +kernel
theorem w_running : about1.status = .running := rfl
set_option maxRecDepth 65536 in
theorem w_room : about1.hasRoom e0.platform room_1 = true :=
  launch0.hasRoom_least _ room_1 (by decide +kernel) (by decide +kernel) (by decide +kernel) (by decide +kernel) (by decide +kernel) (by decide +kernel)
theorem allAtoms_all (ts : List Jvm.Cond) (a : Array Jvm.Value) (st : Jvm.State) : (allAtoms ts).before a st = ts.all (fun c => c.before a st) := by
  induction ts with
  | nil => rfl
  | cons c t ih =>
    show (Jvm.Cond.and c (allAtoms t)).before a st = _
    rw [Jvm.Cond.before_and, ih, List.all_cons]
def words1 : List Jvm.Cond := Jvm.Cond.code x code maxLocals ret :: tables_1
/-- a 'code' word, met by the world's own term for the bytes: nothing is compared byte by byte -/
theorem code_word {y : MethodName} {bytes : ByteArray} {mx : Nat} {rt : Option FieldType} {a : Array Value} {s : State} {m : MethodId} {meth : Method} {c : Code} (h1 : s.methodNamed? y = some m) (h2 : s.vm.method? m = some meth) (h3 : meth.code = some c) (h4 : c.code = bytes)
    (h5 : (c.maxLocals == mx && c.exceptionTable.isEmpty && decide (c.maxStack ≤ mostOperands) && decide (meth.sig.returnType = rt) && !meth.locks && decide (parseMethodDescriptor y.desc = some meth.sig)) = true) : (Jvm.Cond.code y bytes mx rt).before a s = true := by
  simp only [Bool.and_eq_true, beq_iff_eq, Bool.not_eq_true', decide_eq_true_eq] at h5
  obtain ⟨⟨⟨⟨⟨g1, g2⟩, g3⟩, g4⟩, g5⟩, g6⟩ := h5
  simp [Cond.before, Cond.holds, Cond.value, h1, h2, h3, h4, g1, g2, g3, g4, g5, g6]
def isCode : Jvm.Cond → Bool
  | .code _ _ _ _ => true
  | _ => false
theorem all_split {L : List Jvm.Cond} {P : Jvm.Cond → Bool} (h1 : L.all (fun c => isCode c || P c) = true) (h2 : ∀ c ∈ L.filter isCode, P c = true) : L.all P = true := by
  refine List.all_eq_true.mpr fun c hc => ?_
  have h := List.all_eq_true.mp h1 c hc
  rcases Bool.eq_false_or_eq_true (isCode c) with hi | hi
  · exact h2 c (List.mem_filter.mpr ⟨hc, hi⟩)
  · simpa [hi] using h
set_option maxRecDepth 65536 in
theorem w_c0 : (Jvm.Cond.code x code maxLocals ret).before args0 about1 = true := code_word (m := ⟨1, 1⟩) (meth := k1m1) (c := k1c1) (by decide +kernel) rfl rfl rfl (by decide +kernel)
set_option maxRecDepth 65536 in
theorem w_c1 : (Jvm.Cond.code ({ cls := "java/lang/Math", name := "min", desc := "(JJ)J" } : Jvm.MethodName) jdk_29_method_70_code (4 : Nat) (Option.some Jvm.ClassFile.FieldType.long)).before args0 about1 = true := code_word (m := ⟨2, 1⟩) (meth := k2m1) (c := k2c1) (by decide +kernel) rfl rfl rfl (by decide +kernel)
set_option maxRecDepth 65536 in
theorem w_c2 : (Jvm.Cond.code ({ cls := "com/example/log_to_queue/logtoqueue/queue/IndexEntries", name := "<init>", desc := "(J)V" } : Jvm.MethodName) prog_63_method_1_code (3 : Nat) (Option.none : Option Jvm.ClassFile.FieldType)).before args0 about1 = true := code_word (m := ⟨3, 0⟩) (meth := k3m0) (c := k3c0) (by decide +kernel) rfl rfl rfl (by decide +kernel)
set_option maxRecDepth 65536 in
theorem w_c3 : (Jvm.Cond.code ({ cls := "java/lang/Object", name := "<init>", desc := "()V" } : Jvm.MethodName) object_method_1_code (1 : Nat) (Option.none : Option Jvm.ClassFile.FieldType)).before args0 about1 = true := code_word (m := ⟨0, 0⟩) (meth := k0m0) (c := k0c0) (by decide +kernel) rfl rfl rfl (by decide +kernel)
set_option maxRecDepth 65536 in
theorem w_c4 : (Jvm.Cond.code ({ cls := "com/example/log_to_queue/logtoqueue/queue/IndexEntries", name := "add", desc := "(JII)V" } : Jvm.MethodName) prog_63_method_3_code (6 : Nat) (Option.none : Option Jvm.ClassFile.FieldType)).before args0 about1 = true := code_word (m := ⟨3, 1⟩) (meth := k3m1) (c := k3c1) (by decide +kernel) rfl rfl rfl (by decide +kernel)
set_option maxRecDepth 65536 in
theorem w_c5 : (Jvm.Cond.code ({ cls := "com/example/log_to_queue/logtoqueue/queue/IndexEntries", name := "logPosition", desc := "(J)J" } : Jvm.MethodName) prog_63_method_5_code (3 : Nat) (Option.some Jvm.ClassFile.FieldType.long)).before args0 about1 = true := code_word (m := ⟨3, 2⟩) (meth := k3m2) (c := k3c2) (by decide +kernel) rfl rfl rfl (by decide +kernel)
def codes1 : List Jvm.Cond := [Jvm.Cond.code x code maxLocals ret, Jvm.Cond.code ({ cls := "java/lang/Math", name := "min", desc := "(JJ)J" } : Jvm.MethodName) jdk_29_method_70_code (4 : Nat) (Option.some Jvm.ClassFile.FieldType.long), Jvm.Cond.code ({ cls := "com/example/log_to_queue/logtoqueue/queue/IndexEntries", name := "<init>", desc := "(J)V" } : Jvm.MethodName) prog_63_method_1_code (3 : Nat) (Option.none : Option Jvm.ClassFile.FieldType), Jvm.Cond.code ({ cls := "java/lang/Object", name := "<init>", desc := "()V" } : Jvm.MethodName) object_method_1_code (1 : Nat) (Option.none : Option Jvm.ClassFile.FieldType), Jvm.Cond.code ({ cls := "com/example/log_to_queue/logtoqueue/queue/IndexEntries", name := "add", desc := "(JII)V" } : Jvm.MethodName) prog_63_method_3_code (6 : Nat) (Option.none : Option Jvm.ClassFile.FieldType), Jvm.Cond.code ({ cls := "com/example/log_to_queue/logtoqueue/queue/IndexEntries", name := "logPosition", desc := "(J)J" } : Jvm.MethodName) prog_63_method_5_code (3 : Nat) (Option.some Jvm.ClassFile.FieldType.long)]
set_option maxRecDepth 65536 in
theorem codes_eq : words1.filter isCode = codes1 := rfl
theorem w_codes : ∀ c ∈ words1.filter isCode, c.before args0 about1 = true := by
  rw [codes_eq]
  intro c hc
  simp only [codes1, List.mem_cons, List.not_mem_nil, or_false] at hc
  rcases hc with rfl | rfl | rfl | rfl | rfl | rfl
  · exact w_c0
  · exact w_c1
  · exact w_c2
  · exact w_c3
  · exact w_c4
  · exact w_c5
set_option maxRecDepth 65536 in
theorem w_t1 : (words1.take 24).all (fun c => isCode c || c.before args0 about1) = true := by decide +kernel
set_option maxRecDepth 65536 in
theorem w_t2 : (words1.drop 24).all (fun c => isCode c || c.before args0 about1) = true := by decide +kernel
theorem w_tables : (allAtoms (Jvm.Cond.code x code maxLocals ret :: tables_1)).before args0 about1 = true := by
  rw [allAtoms_all]
  show words1.all (fun c => c.before args0 about1) = true
  refine all_split ?_ w_codes
  rw [← List.take_append_drop 24 words1, List.all_append, w_t1, w_t2]
  rfl
set_option maxRecDepth 65536 in
theorem w_case : (Jvm.Cond.and given_1 narrow_1).before args0 about1 = true := by decide +kernel
theorem w_applies : (headSpec (Jvm.Cond.code x code maxLocals ret :: tables_1) room_1).applies x e0.platform about1 = true :=
  (Spec.applies_iff w_frames).mpr ⟨w_running, w_runnable, w_alone, w_named, w_hears, w_ripe, w_room, w_tables⟩
theorem atStart : AtStart classFile x code maxLocals ret World_1 tables_1 room_1 Calls_1 rest_1 Pre_1 launch0 p0 e0 about1 theMethod args0 below0 :=
  ⟨lists_1, trivial, launch0.admits_env _ _ _, launch0.least_env, fairChoices_fair.cas, fairChoices_fair.clock, w_frames, w_args, w_heap, w_applies, trivial, trivial, w_case⟩
end start1
theorem witness_1 : WitnessClaimed_1 := ⟨start1.p0, start1.e0, start1.about1, start1.theMethod, start1.args0, start1.below0, start1.atStart⟩
end Jvm.Pilot.@@N@@
