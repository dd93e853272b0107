import JvmDerived
import JvmDerived.Pilot.@@N@@Statement
import JvmDerived.Pilot.@@N@@Code
set_option linter.unusedVariables false
set_option linter.unusedSimpArgs false
namespace Jvm.RoadKit
open Sem ClassFile Op Lib Jvm.Stand Jvm.Free Jvm.LawKit
section OwnKit
variable {p : Program} {l : Launch} {e : Env} {R : Room} {s : State} {m : MethodId} {args : Array Value} {below : List Frame} {meth : Method} {c : Code} {T : State} {locs : List Loc} {cells slots : Nat} {Z : State} {a0 : Array Value} {h h' : Heap} {a b : Addr}
variable {C N : Nat} {Q : Option Value → Heap → List Loc → Prop} {pc : Nat} {Ls : Array Slot} {rest : List Value}
/-- from the state A the invocation returns, with what Q says of the value, the heap and the places written -/
def own_Fin (p : Program) (e : Env) (below : List Frame) (s : State) (C N : Nat) (Q : Option Value → Heap → List Loc → Prop) (A : State) : Prop :=
  ∃ s₂ o, Steps p.tables e below A s₂ ∧ s₂.status = .running ∧ Ended s₂ below o ∧ ∃ v L, o = .returned v ∧ Q v s₂.heap L ∧ FrameEnd s o s₂ L C N
theorem own_of {A B : State} (st : ∀ t, Steps p.tables e below B t → Steps p.tables e below A t) (k : own_Fin p e below s C N Q B) : own_Fin p e below s C N Q A := by
  obtain ⟨s₂, o, h1, h2⟩ := k
  exact ⟨s₂, o, st _ h1, h2⟩
theorem own_mono {Q' : Option Value → Heap → List Loc → Prop} {A : State} (hq : ∀ v h L, Q v h L → Q' v h L) (k : own_Fin p e below s C N Q A) : own_Fin p e below s C N Q' A := by
  obtain ⟨s₂, o, h1, h2, h3, v, L, h4, h5, h6⟩ := k
  exact ⟨s₂, o, h1, h2, h3, v, L, h4, hq _ _ _ h5, h6⟩
/-- a body's contract: called with as' over the heap h0 it returns, and Q holds -/
def own_Met (l : Launch) (Z : State) (y : MethodName) (bytes : ByteArray) (maxL : Nat) (ret : Option FieldType) (rm : Room) (as' : Array Value) (h0 : Heap) (Q : Option Value → Heap → List Loc → Prop) : Prop :=
  ∀ ws : List Cond, MetFree l y (head1 (Cond.code y bytes maxL ret :: ws) rm) (fun a U => a = as' ∧ Z.Warmed39 U.vm ∧ U.heap = h0) (fun _ _ _ _ _ => True) (fun _ U o U' => ∃ v L, o = .returned v ∧ Q v U'.heap L ∧ FrameEnd U o U' L rm.cells rm.slots)
theorem own_met {y : MethodName} {bytes : ByteArray} {maxL : Nat} {ret : Option FieldType} {rm : Room} {as' : Array Value} {h0 : Heap} (hpl : plainFor y = true)
    (body : ∀ (p : Program) (e : Env) (s : State) (m : MethodId) (below : List Frame) (meth : Method) (c : Code) (T : State), Stand p l e rm s m as' below meth c T [] 0 0 → p.tables.exec = Jvm.exec → c.code = bytes → c.maxLocals = maxL → s.vm.findClass y.cls = some m.cls → Z.Warmed39 s.vm → T.heap = h0 → meth.sig.returnType = ret → meth.locks = false → meth.name = y.name →
      own_Fin p e below s rm.cells rm.slots Q (T.setTop (entryFrame m as' maxL))) : own_Met l Z y bytes maxL ret rm as' h0 Q := by
  intro ws
  refine MetFree.of_bodySF hpl hisR ?_
  intro p e s m args below meth c s₁ Bd hml0 hP hK
  obtain ⟨rfl, hZ, hh⟩ := hP
  have X0 : Stand p l e rm s m _ below meth c s₁ [] 0 0 := Stand.of_body Bd
  exact body p e s m below meth c s₁ X0 Bd.exec Bd.bytes hml0 (findClass_of_methodNamed Bd.named) hZ (by rw [← hh, Bd.state]; rfl) Bd.returns Bd.notSynchronized (name_of_methodNamed Bd.named Bd.method).1
/-! returns -/
theorem own_retI (X : Stand p l e R s m args below meth c T locs cells slots) (hx : p.tables.exec = Jvm.exec) (hlk : meth.locks = false) (eT : T.heap = h) {z : Int32} (hret : meth.sig.returnType = some .int) (hd : decode c.code pc = .ok (.ireturn, 1)) (hC : cells ≤ C) (hN : slots ≤ N) (hQ : Q (some (.int z)) h locs) :
    own_Fin p e below s C N Q (T.setTop (mkF m pc Ls (.int z :: rest))) := by
  obtain ⟨fs, hr, hrun, hended, hW, hsame⟩ := X.leave (v := some (.int z)) (fun h => by rw [hret] at h; cases h) hlk
  exact ⟨_, _, retOut X hx hret rfl (Or.inl ⟨rfl, Or.inl rfl, _, rfl⟩) hd hr, hrun, hended, _, _, rfl, (by show Q _ T.heap _; rw [eT]; exact hQ), ⟨_, rfl⟩, hW, hsame.mono hC hN⟩
theorem own_retN (X : Stand p l e R s m args below meth c T locs cells slots) (hx : p.tables.exec = Jvm.exec) (hlk : meth.locks = false) (eT : T.heap = h) {z z' : Int32} {t : FieldType} (hret : meth.sig.returnType = some t) (ht : t = .boolean ∨ t = .byte ∨ t = .char ∨ t = .short) (hd : decode c.code pc = .ok (.ireturn, 1)) (hC : cells ≤ C) (hN : slots ≤ N) (hz : nar t z = z') (hQ : Q (some (.int z')) h locs) :
    own_Fin p e below s C N Q (T.setTop (mkF m pc Ls (.int z :: rest))) := by
  subst hz
  obtain ⟨fs, hr, hrun, hended, hW, hsame⟩ := X.leave (v := some (.int (nar t z))) (fun h => by rw [hret] at h; cases h) hlk
  exact ⟨_, _, retN X hx hret ht hd hr, hrun, hended, _, _, rfl, (by show Q _ T.heap _; rw [eT]; exact hQ), ⟨_, rfl⟩, hW, hsame.mono hC hN⟩
theorem own_retJ (X : Stand p l e R s m args below meth c T locs cells slots) (hx : p.tables.exec = Jvm.exec) (hlk : meth.locks = false) (eT : T.heap = h) {z : Int64} (hret : meth.sig.returnType = some .long) (hd : decode c.code pc = .ok (.lreturn, 1)) (hC : cells ≤ C) (hN : slots ≤ N) (hQ : Q (some (.long z)) h locs) :
    own_Fin p e below s C N Q (T.setTop (mkF m pc Ls (.long z :: rest))) := by
  obtain ⟨fs, hr, hrun, hended, hW, hsame⟩ := X.leave (v := some (.long z)) (fun h => by rw [hret] at h; cases h) hlk
  exact ⟨_, _, retOut X hx hret rfl (Or.inr (Or.inl ⟨rfl, rfl, _, rfl⟩)) hd hr, hrun, hended, _, _, rfl, (by show Q _ T.heap _; rw [eT]; exact hQ), ⟨_, rfl⟩, hW, hsame.mono hC hN⟩
theorem own_retA (X : Stand p l e R s m args below meth c T locs cells slots) (hx : p.tables.exec = Jvm.exec) (hlk : meth.locks = false) (eT : T.heap = h) {t : FieldType} (ht : t.isReference = true) (hret : meth.sig.returnType = some t) (hn : narrow t (.ref a) = .ref a) (hd : decode c.code pc = .ok (.areturn, 1)) (hC : cells ≤ C) (hN : slots ≤ N) (hQ : Q (some (.ref a)) h locs) :
    own_Fin p e below s C N Q (T.setTop (mkF m pc Ls (.ref a :: rest))) := by
  obtain ⟨fs, hr, hrun, hended, hW, hsame⟩ := X.leave (v := some (.ref a)) (fun h => by rw [hret] at h; cases h) hlk
  exact ⟨_, _, retOut X hx hret hn (Or.inr (Or.inr (Or.inr (Or.inr ⟨rfl, ht, rfl⟩)))) hd hr, hrun, hended, _, _, rfl, (by show Q _ T.heap _; rw [eT]; exact hQ), ⟨_, rfl⟩, hW, hsame.mono hC hN⟩
theorem own_retV (X : Stand p l e R s m args below meth c T locs cells slots) (hx : p.tables.exec = Jvm.exec) (hlk : meth.locks = false) (eT : T.heap = h) (hret : meth.sig.returnType = none) (hd : decode c.code pc = .ok (.return_, 1)) (hC : cells ≤ C) (hN : slots ≤ N) (hQ : Q none h locs) :
    own_Fin p e below s C N Q (T.setTop (mkF m pc Ls [])) := by
  obtain ⟨fs, hr, hrun, hended, hW, hsame⟩ := X.leave (v := none) (fun _ => rfl) hlk
  exact ⟨_, _, X.returnOut hx hret hd hr, hrun, hended, _, _, rfl, (by show Q _ T.heap _; rw [eT]; exact hQ), ⟨_, rfl⟩, hW, hsame.mono hC hN⟩
/-! calls -/
theorem own_callS (X : Stand p l e R s m args below meth c T locs cells slots) (hx : p.tables.exec = Jvm.exec) (hZ : Z.Warmed39 s.vm) {own : String} {index : Nat} {y : MethodName} {bytes : ByteArray} {maxL : Nat} {ret : Option FieldType} {rm : Room} {W : Nat} {argsL : List Value} {Qc : Option Value → Heap → List Loc → Prop}
    (hown : s.vm.findClass own = some m.cls) (wl : (Cond.methodLink own index y).before a0 Z = true) (wst : (Cond.static y).before a0 Z = true) (wi : (Cond.initialized y.cls).before a0 Z = true) (wc : (Cond.code y bytes maxL ret).before a0 Z = true) (hy : y.cls ≠ "java/lang/invoke/MethodHandle" ∧ y.cls ≠ "java/lang/invoke/VarHandle")
    (eT : T.heap = h) (hM : own_Met l Z y bytes maxL ret rm argsL.toArray h Qc) (hfr : rm.frames + 1 ≤ R.frames) (hlo : W + (maxL + 11) + rm.locals ≤ R.locals) (hce : cells + rm.cells ≤ R.cells) (hsl : slots + rm.slots ≤ R.slots)
    (hsize : Ls.size = c.maxLocals) {ps : List FieldType} {r : Option FieldType} (hpd : parseMethodDescriptor y.desc = some ⟨ps, r⟩) (hlen : argsL.length = ps.length) {St : List Value} (hs : St = argsL.reverse ++ rest) (hW : (rest.map fun v => v.category).sum ≤ W) (hd : decode c.code pc = .ok (.invokestatic index, 3))
    (k : ∀ v T' h' L, Stand p l e R s m args below meth c T' (locs ++ L) (cells + rm.cells) (slots + rm.slots) → T'.heap = h' → Qc v h' L → own_Fin p e below s C N Q (T'.setTop (mkF m (pc + 3) Ls (v.toList ++ rest)))) :
    own_Fin p e below s C N Q (T.setTop (mkF m pc Ls St)) := by
  subst hs
  obtain ⟨v, _, ⟨T', L', k', n'⟩, -, X', ⟨Lc, hQ, l1, y1, z1⟩, st⟩ := Jvm.LawKit.callS X hx (y := y) hown (mvT hZ wl) (mvT hZ wst) (mvT hZ wi) (mvT hZ wc) hy (backOf (W := W) (hM []) hZ wc wi hfr hlo) (g := mkF m pc Ls (argsL.reverse ++ rest)) rfl hsize (argsL := argsL) (rest := rest) (lenOf hpd hlen) rfl (by show 2 * 0 + _ ≤ _; simpa using hW) hd (fun _ _ => ⟨rfl, eT, hce, hsl⟩)
  dsimp only [Pt.U, Pt.locs, Pt.cells, Pt.slots] at X' l1 y1 z1 st hQ
  subst l1 y1 z1
  exact own_of st (k _ _ _ _ X' rfl hQ)
def own_Pure (r : Value) (h : Heap) : Option Value → Heap → List Loc → Prop := fun v h' L => v = some r ∧ h' = h ∧ L = []
theorem own_callP (X : Stand p l e R s m args below meth c T locs cells slots) (hx : p.tables.exec = Jvm.exec) (hZ : Z.Warmed39 s.vm) {own : String} {index : Nat} {y : MethodName} {bytes : ByteArray} {maxL : Nat} {ret : Option FieldType} {fr lo : Nat} {W : Nat} {argsL : List Value} {rv : Value}
    (hown : s.vm.findClass own = some m.cls) (wl : (Cond.methodLink own index y).before a0 Z = true) (wst : (Cond.static y).before a0 Z = true) (wi : (Cond.initialized y.cls).before a0 Z = true) (wc : (Cond.code y bytes maxL ret).before a0 Z = true) (hy : y.cls ≠ "java/lang/invoke/MethodHandle" ∧ y.cls ≠ "java/lang/invoke/VarHandle")
    (eT : T.heap = h) (hM : own_Met l Z y bytes maxL ret { frames := fr, cells := 0, slots := 0, locals := lo } argsL.toArray h (own_Pure rv h)) (hfr : fr + 1 ≤ R.frames) (hlo : W + (maxL + 11) + lo ≤ R.locals) (hce : cells ≤ R.cells) (hsl : slots ≤ R.slots)
    (hsize : Ls.size = c.maxLocals) {ps : List FieldType} {r : Option FieldType} (hpd : parseMethodDescriptor y.desc = some ⟨ps, r⟩) (hlen : argsL.length = ps.length) {St : List Value} (hs : St = argsL.reverse ++ rest) (hW : (rest.map fun v => v.category).sum ≤ W) (hd : decode c.code pc = .ok (.invokestatic index, 3))
    (k : ∀ T', Stand p l e R s m args below meth c T' locs cells slots → T'.heap = h → own_Fin p e below s C N Q (T'.setTop (mkF m (pc + 3) Ls (rv :: rest)))) :
    own_Fin p e below s C N Q (T.setTop (mkF m pc Ls St)) := by
  refine own_callS X hx hZ hown wl wst wi wc hy eT hM hfr hlo hce hsl hsize hpd hlen hs hW hd ?_
  rintro v T' h' L X' e' ⟨rfl, rfl, rfl⟩
  rw [List.append_nil] at X'
  exact k T' X' e'
theorem own_callV (X : Stand p l e R s m args below meth c T locs cells slots) (hx : p.tables.exec = Jvm.exec) (hZ : Z.Warmed39 s.vm) {own K : String} {index : Nat} {y z : MethodName} {bytes : ByteArray} {maxL : Nat} {ret : Option FieldType} {rm : Room} {W : Nat} {argsL : List Value} {Qc : Option Value → Heap → List Loc → Prop}
    (hown : s.vm.findClass own = some m.cls) (wl : (Cond.methodLink own index y).before a0 Z = true) (wd : (Cond.declares y).before a0 Z = true) (hnf : NotFace s y) (wse : (Cond.selects K y z).before a0 Z = true) (win : (Cond.instanceMethod z).before a0 Z = true) (wi : (Cond.initialized z.cls).before a0 Z = true) (wc : (Cond.code z bytes maxL ret).before a0 Z = true) (hy : y.cls ≠ "java/lang/invoke/MethodHandle" ∧ y.cls ≠ "java/lang/invoke/VarHandle")
    (eT : T.heap = h) (E : Exa Z h b K) (hM : own_Met l Z z bytes maxL ret rm (.ref b :: argsL).toArray h Qc) (hfr : rm.frames + 1 ≤ R.frames) (hlo : W + (maxL + 11) + rm.locals ≤ R.locals) (hce : cells + rm.cells ≤ R.cells) (hsl : slots + rm.slots ≤ R.slots)
    (hsize : Ls.size = c.maxLocals) {ps : List FieldType} {r : Option FieldType} (hpd : parseMethodDescriptor y.desc = some ⟨ps, r⟩) (hlen : argsL.length = ps.length) {St : List Value} (hs : St = argsL.reverse ++ .ref b :: rest) (hW : (rest.map fun v => v.category).sum ≤ W) (hd : decode c.code pc = .ok (.invokevirtual index, 3))
    (k : ∀ v T' h' L, Stand p l e R s m args below meth c T' (locs ++ L) (cells + rm.cells) (slots + rm.slots) → T'.heap = h' → Qc v h' L → own_Fin p e below s C N Q (T'.setTop (mkF m (pc + 3) Ls (v.toList ++ rest)))) :
    own_Fin p e below s C N Q (T.setTop (mkF m pc Ls St)) := by
  subst hs
  obtain ⟨cq, kq, qa, qb, qc⟩ := isOf hZ eT E
  obtain ⟨v, _, ⟨T', L', k', n'⟩, -, X', ⟨Lc, hQ, l1, y1, z1⟩, st⟩ := X.virtualBack hx (y := y) (z := z) hown (mvT hZ wl) (mvT hZ wd) hnf (mvT hZ wse) (mvT hZ win) hy (backOf (W := W) (hM []) hZ wc wi hfr hlo) qa qc (g := mkF m pc Ls (argsL.reverse ++ .ref b :: rest)) rfl hsize (Steps.refl _) (argsL := argsL) (rest := rest) (lenOf hpd hlen) rfl (by show 2 * 0 + _ ≤ _; simpa using hW) hd (fun _ _ => ⟨rfl, eT, hce, hsl⟩)
  dsimp only [Pt.U, Pt.locs, Pt.cells, Pt.slots] at X' l1 y1 z1 st hQ
  subst l1 y1 z1
  exact own_of (fun t k => st.trans k) (k _ _ _ _ X' rfl hQ)
theorem own_callC (X : Stand p l e R s m args below meth c T locs cells slots) (hx : p.tables.exec = Jvm.exec) (hZ : Z.Warmed39 s.vm) {own : String} {index : Nat} {y : MethodName} {bytes : ByteArray} {maxL : Nat} {rm : Room} {W : Nat} {argsL : List Value} {Qc : Option Value → Heap → List Loc → Prop} (hn : y.name = "<init>")
    (hown : s.vm.findClass own = some m.cls) (wl : (Cond.methodLink own index y).before a0 Z = true) (win : (Cond.instanceMethod y).before a0 Z = true) (wi : (Cond.initialized y.cls).before a0 Z = true) (wc : (Cond.code y bytes maxL none).before a0 Z = true) (hy : y.cls ≠ "java/lang/invoke/MethodHandle" ∧ y.cls ≠ "java/lang/invoke/VarHandle")
    (eT : T.heap = h) (hM : own_Met l Z y bytes maxL none rm (.ref b :: argsL).toArray h Qc) (hfr : rm.frames + 1 ≤ R.frames) (hlo : W + (maxL + 11) + rm.locals ≤ R.locals) (hce : cells + rm.cells ≤ R.cells) (hsl : slots + rm.slots ≤ R.slots)
    (hsize : Ls.size = c.maxLocals) {ps : List FieldType} {r : Option FieldType} (hpd : parseMethodDescriptor y.desc = some ⟨ps, r⟩) (hlen : argsL.length = ps.length) {St : List Value} (hs : St = argsL.reverse ++ .ref b :: rest) (hW : (rest.map fun v => v.category).sum ≤ W) (hd : decode c.code pc = .ok (.invokespecial index, 3))
    (k : ∀ v T' h' L, Stand p l e R s m args below meth c T' (locs ++ L) (cells + rm.cells) (slots + rm.slots) → T'.heap = h' → Qc v h' L → own_Fin p e below s C N Q (T'.setTop (mkF m (pc + 3) Ls (v.toList ++ rest)))) :
    own_Fin p e below s C N Q (T.setTop (mkF m pc Ls St)) := by
  subst hs
  obtain ⟨v, _, ⟨T', L', k', n'⟩, -, X', ⟨Lc, hQ, l1, y1, z1⟩, st⟩ := X.specialBack hx (y := y) hn hown (mvT hZ wl) (mvT hZ win) (mvT hZ wc) hy (backOf (W := W) (hM []) hZ wc wi hfr hlo) (g := mkF m pc Ls (argsL.reverse ++ .ref b :: rest)) rfl hsize (Steps.refl _) (a := b) (argsL := argsL) (rest := rest) (lenOf hpd hlen) rfl (by show 2 * 0 + _ ≤ _; simpa using hW) hd (fun _ _ => ⟨rfl, eT, hce, hsl⟩)
  dsimp only [Pt.U, Pt.locs, Pt.cells, Pt.slots] at X' l1 y1 z1 st hQ
  subst l1 y1 z1
  exact own_of (fun t k => st.trans k) (k _ _ _ _ X' rfl hQ)
/-! arrays: n places, the j-th holds f j -/
def own_Arf (Z : State) (h : Heap) (a : Addr) (ty : FieldType) (n : Nat) (f : Nat → Value) : Prop := ∃ cl : Cell, Arr Z h a cl ty ∧ cl.slots.size = n ∧ ∀ j, j < n → cl.slots[j]? = some (f j)
section Ar
variable {ty : FieldType} {n : Nat} {f g : Nat → Value} {sl : Nat} {v : Value} {ws : List Addr}
theorem own_Arf.lt (F : own_Arf Z h a ty n f) : a < h.size := by obtain ⟨cl, A, -⟩ := F; exact A.lt
theorem own_Arf.ext (F : own_Arf Z h a ty n f) (E : Ext h h') : own_Arf Z h' a ty n f := by obtain ⟨cl, A, r⟩ := F; exact ⟨cl, A.ext E, r⟩
theorem own_Arf.other (F : own_Arf Z h b ty n f) (W : Wr h h' a sl v) (q : b ≠ a) : own_Arf Z h' b ty n f := by obtain ⟨cl, A, r⟩ := F; exact ⟨cl, A.other W q, r⟩
theorem own_Arf.keep (F : own_Arf Z h a ty n f) (K : Keep h h' ws) (q : a ∉ ws) : own_Arf Z h' a ty n f := by obtain ⟨cl, A, r⟩ := F; exact ⟨cl, ⟨K.2.1 a cl A.1 q, A.2⟩, r⟩
theorem own_Arf.congr (F : own_Arf Z h a ty n f) (q : ∀ j, j < n → f j = g j) : own_Arf Z h a ty n g := by obtain ⟨cl, A, r, s⟩ := F; exact ⟨cl, A, r, fun j hj => by rw [s j hj, q j hj]⟩
theorem own_Arf.set (F : own_Arf Z h a ty n f) (W : Wr h h' a sl v) : own_Arf Z h' a ty n (fun j => if j = sl then v else f j) := by
  obtain ⟨cl, A, r, q⟩ := F
  refine ⟨_, A.same W, by rw [sz_set]; exact r, fun j hj => ?_⟩
  by_cases u : j = sl
  · subst u; simp [Cell.setSlot, r, hj]
  · show (cl.slots.setIfInBounds sl v)[j]? = some (if j = sl then v else f j)
    rw [if_neg u, Array.getElem?_setIfInBounds_ne (Ne.symm u)]; exact q j hj
theorem own_Arf.new {k : ClassId} {z : Int32} (A : Arr Z h a (newA k ty z) ty) (hz : z.toInt = n) : own_Arf Z h a ty n (fun _ => defaultValue ty) := by
  have e : z.toNatClampNeg = n := by simp only [Int32.toNatClampNeg, hz]; rfl
  refine ⟨_, A, by rw [sz_new]; exact e, fun j hj => ?_⟩
  simp [newA, e, hj]
theorem own_in {j : Int32} {i k : Nat} (hj : j.toInt = i) (hi : i < k) : ¬ (j < 0 ∨ k ≤ j.toNatClampNeg) := by
  simp only [Int32.lt_iff_toInt_lt, Int32.toNatClampNeg, hj, Int32.reduceToInt]; omega
theorem own_nc {j : Int32} {i : Nat} (hj : j.toInt = i) : j.toNatClampNeg = i := by simp only [Int32.toNatClampNeg, hj]; rfl
theorem own_iaload (X : Stand p l e R s m args below meth c T locs cells slots) (hx : p.tables.exec = Jvm.exec) (hZ : Z.Warmed39 s.vm) (eT : T.heap = h) (F : own_Arf Z h a .int n f) {j : Int32} {i : Nat} (hj : j.toInt = i) (hi : i < n) (hv : f i = v) (hd : decode c.code pc = .ok (.iaload, 1))
    (k : own_Fin p e below s C N Q (T.setTop (mkF m (pc + 1) Ls (v :: rest)))) : own_Fin p e below s C N Q (T.setTop (mkF m pc Ls (.int j :: .ref a :: rest))) := by
  obtain ⟨cl, A, r, q⟩ := F
  exact own_of (fun t kk => X.iaload hx (j := j) (v := v) (by rw [eT]; exact A.1) (State.isArrayOf_alike hZ.alike A.2.1) A.2.2 (own_in hj (by rw [r]; exact hi)) (by rw [own_nc hj, q i hi, hv]) (g := mkF m pc Ls (.int j :: .ref a :: rest)) rfl rfl hd t kk) k
theorem own_laload (X : Stand p l e R s m args below meth c T locs cells slots) (hx : p.tables.exec = Jvm.exec) (hZ : Z.Warmed39 s.vm) (eT : T.heap = h) (F : own_Arf Z h a .long n f) {j : Int32} {i : Nat} (hj : j.toInt = i) (hi : i < n) (hv : f i = v) (hd : decode c.code pc = .ok (.laload, 1))
    (k : own_Fin p e below s C N Q (T.setTop (mkF m (pc + 1) Ls (v :: rest)))) : own_Fin p e below s C N Q (T.setTop (mkF m pc Ls (.int j :: .ref a :: rest))) := by
  obtain ⟨cl, A, r, q⟩ := F
  exact own_of (fun t kk => X.laload hx (j := j) (v := v) (by rw [eT]; exact A.1) (State.isArrayOf_alike hZ.alike A.2.1) A.2.2 (own_in hj (by rw [r]; exact hi)) (by rw [own_nc hj, q i hi, hv]) (g := mkF m pc Ls (.int j :: .ref a :: rest)) rfl rfl hd t kk) k
theorem own_caload (X : Stand p l e R s m args below meth c T locs cells slots) (hx : p.tables.exec = Jvm.exec) (hZ : Z.Warmed39 s.vm) (eT : T.heap = h) (F : own_Arf Z h a .char n f) {j : Int32} {i : Nat} (hj : j.toInt = i) (hi : i < n) (hv : f i = v) (hd : decode c.code pc = .ok (.caload, 1))
    (k : own_Fin p e below s C N Q (T.setTop (mkF m (pc + 1) Ls (v :: rest)))) : own_Fin p e below s C N Q (T.setTop (mkF m pc Ls (.int j :: .ref a :: rest))) := by
  obtain ⟨cl, A, r, q⟩ := F
  exact own_of (fun t kk => X.caload hx (j := j) (v := v) (by rw [eT]; exact A.1) (State.isArrayOf_alike hZ.alike A.2.1) A.2.2 (own_in hj (by rw [r]; exact hi)) (by rw [own_nc hj, q i hi, hv]) (g := mkF m pc Ls (.int j :: .ref a :: rest)) rfl rfl hd t kk) k
theorem own_baload (X : Stand p l e R s m args below meth c T locs cells slots) (hx : p.tables.exec = Jvm.exec) (hZ : Z.Warmed39 s.vm) (eT : T.heap = h) (F : own_Arf Z h a .byte n f) {j : Int32} {i : Nat} (hj : j.toInt = i) (hi : i < n) (hv : f i = v) (hd : decode c.code pc = .ok (.baload, 1))
    (k : own_Fin p e below s C N Q (T.setTop (mkF m (pc + 1) Ls (v :: rest)))) : own_Fin p e below s C N Q (T.setTop (mkF m pc Ls (.int j :: .ref a :: rest))) := by
  obtain ⟨cl, A, r, q⟩ := F
  exact own_of (fun t kk => X.baloadBytes hx (j := j) (v := v) (by rw [eT]; exact A.1) (State.isArrayOf_alike hZ.alike A.2.1) A.2.2 (own_in hj (by rw [r]; exact hi)) (by rw [own_nc hj, q i hi, hv]) (g := mkF m pc Ls (.int j :: .ref a :: rest)) rfl rfl hd t kk) k
theorem own_zaload (X : Stand p l e R s m args below meth c T locs cells slots) (hx : p.tables.exec = Jvm.exec) (hZ : Z.Warmed39 s.vm) (eT : T.heap = h) (F : own_Arf Z h a .boolean n f) {j : Int32} {i : Nat} (hj : j.toInt = i) (hi : i < n) (hv : f i = v) (hd : decode c.code pc = .ok (.baload, 1))
    (k : own_Fin p e below s C N Q (T.setTop (mkF m (pc + 1) Ls (v :: rest)))) : own_Fin p e below s C N Q (T.setTop (mkF m pc Ls (.int j :: .ref a :: rest))) := by
  obtain ⟨cl, A, r, q⟩ := F
  exact own_of (fun t kk => X.baloadBooleans hx (j := j) (v := v) (by rw [eT]; exact A.1) (State.isArrayOf_alike hZ.alike A.2.1) A.2.2 (own_in hj (by rw [r]; exact hi)) (by rw [own_nc hj, q i hi, hv]) (g := mkF m pc Ls (.int j :: .ref a :: rest)) rfl rfl hd t kk) k
theorem own_arraylength (X : Stand p l e R s m args below meth c T locs cells slots) (hx : p.tables.exec = Jvm.exec) (hZ : Z.Warmed39 s.vm) (eT : T.heap = h) (F : own_Arf Z h a ty n f) {z : Int32} (hz : z.toInt = n) (hd : decode c.code pc = .ok (.arraylength, 1))
    (k : own_Fin p e below s C N Q (T.setTop (mkF m (pc + 1) Ls (.int z :: rest)))) : own_Fin p e below s C N Q (T.setTop (mkF m pc Ls (.ref a :: rest))) := by
  obtain ⟨cl, A, r, q⟩ := F
  have e1 : cl.slots.size.toInt32 = z := by
    have hlt := Int32.toInt_lt z
    apply Int32.toInt_inj.mp
    rw [r, len_toInt (by omega), hz]
  refine own_of (fun t kk => X.arraylength hx (by rw [eT]; exact A.1) (State.isArrayOf_alike hZ.alike A.2.1) (g := mkF m pc Ls (.ref a :: rest)) rfl rfl hd t kk) ?_
  rw [e1]; exact k
variable {n0 : Nat}
theorem own_st {kd : Value} {i : Nat} {j : Int32} (hj : j.toInt = i) (F : own_Arf Z h a ty n f) (hN : Fr n0 locs) (ge : n0 ≤ a) {A : State} {fr : JFrame}
    (hst : ∃ T' h', Stand p l e R s m args below meth c T' (locs ++ [⟨a, j.toNatClampNeg⟩]) cells slots ∧ T'.heap = h' ∧ Wr h h' a j.toNatClampNeg kd ∧ ∀ target, Steps p.tables e below (T'.setTop fr) target → Steps p.tables e below A target)
    (k : ∀ T' h' locs', Stand p l e R s m args below meth c T' locs' cells slots → Fr n0 locs' → T'.heap = h' → Wr h h' a i kd → own_Arf Z h' a ty n (fun j => if j = i then kd else f j) → own_Fin p e below s C N Q (T'.setTop fr)) :
    own_Fin p e below s C N Q A := by
  obtain ⟨T', h', X', e', W, st⟩ := hst
  have hN' := Fr.snoc X' hN ge
  rw [own_nc hj] at W
  exact own_of st (k T' h' _ X' hN' e' W (F.set W))
theorem own_iastore (X : Stand p l e R s m args below meth c T locs cells slots) (hx : p.tables.exec = Jvm.exec) (hZ : Z.Warmed39 s.vm) (eT : T.heap = h) (F : own_Arf Z h a .int n f) (hN : Fr n0 locs) (ge : n0 ≤ a) {j x : Int32} {i : Nat} (hj : j.toInt = i) (hi : i < n) (hd : decode c.code pc = .ok (.iastore, 1))
    (k : ∀ T' h' locs', Stand p l e R s m args below meth c T' locs' cells slots → Fr n0 locs' → T'.heap = h' → Wr h h' a i (.int x) → own_Arf Z h' a .int n (fun j => if j = i then .int x else f j) → own_Fin p e below s C N Q (T'.setTop (mkF m (pc + 1) Ls rest))) :
    own_Fin p e below s C N Q (T.setTop (mkF m pc Ls (.int x :: .int j :: .ref a :: rest))) := by
  have F' := F
  obtain ⟨cl, A, r, q⟩ := F
  exact own_st hj F' hN ge (stI X hx hZ eT A (j := j) (own_in hj (by rw [r]; exact hi)) (g := mkF m pc Ls (.int x :: .int j :: .ref a :: rest)) rfl rfl hd) k
theorem own_lastore (X : Stand p l e R s m args below meth c T locs cells slots) (hx : p.tables.exec = Jvm.exec) (hZ : Z.Warmed39 s.vm) (eT : T.heap = h) (F : own_Arf Z h a .long n f) (hN : Fr n0 locs) (ge : n0 ≤ a) {j : Int32} {x : Int64} {i : Nat} (hj : j.toInt = i) (hi : i < n) (hd : decode c.code pc = .ok (.lastore, 1))
    (k : ∀ T' h' locs', Stand p l e R s m args below meth c T' locs' cells slots → Fr n0 locs' → T'.heap = h' → Wr h h' a i (.long x) → own_Arf Z h' a .long n (fun j => if j = i then .long x else f j) → own_Fin p e below s C N Q (T'.setTop (mkF m (pc + 1) Ls rest))) :
    own_Fin p e below s C N Q (T.setTop (mkF m pc Ls (.long x :: .int j :: .ref a :: rest))) := by
  have F' := F
  obtain ⟨cl, A, r, q⟩ := F
  exact own_st hj F' hN ge (stJ X hx hZ eT A (j := j) (own_in hj (by rw [r]; exact hi)) (g := mkF m pc Ls (.long x :: .int j :: .ref a :: rest)) rfl rfl hd) k
theorem own_bastore (X : Stand p l e R s m args below meth c T locs cells slots) (hx : p.tables.exec = Jvm.exec) (hZ : Z.Warmed39 s.vm) (eT : T.heap = h) (F : own_Arf Z h a .byte n f) (hN : Fr n0 locs) (ge : n0 ≤ a) {j x : Int32} {i : Nat} (hj : j.toInt = i) (hi : i < n) (hd : decode c.code pc = .ok (.bastore, 1))
    (k : ∀ T' h' locs', Stand p l e R s m args below meth c T' locs' cells slots → Fr n0 locs' → T'.heap = h' → Wr h h' a i (.int x.toInt8.toInt32) → own_Arf Z h' a .byte n (fun j => if j = i then .int x.toInt8.toInt32 else f j) → own_Fin p e below s C N Q (T'.setTop (mkF m (pc + 1) Ls rest))) :
    own_Fin p e below s C N Q (T.setTop (mkF m pc Ls (.int x :: .int j :: .ref a :: rest))) := by
  have F' := F
  obtain ⟨cl, A, r, q⟩ := F
  exact own_st hj F' hN ge (stB X hx hZ eT A (j := j) (own_in hj (by rw [r]; exact hi)) (g := mkF m pc Ls (.int x :: .int j :: .ref a :: rest)) rfl rfl hd) k
theorem own_castore (X : Stand p l e R s m args below meth c T locs cells slots) (hx : p.tables.exec = Jvm.exec) (hZ : Z.Warmed39 s.vm) (eT : T.heap = h) (F : own_Arf Z h a .char n f) (hN : Fr n0 locs) (ge : n0 ≤ a) {j x : Int32} {i : Nat} (hj : j.toInt = i) (hi : i < n) (hd : decode c.code pc = .ok (.castore, 1))
    (k : ∀ T' h' locs', Stand p l e R s m args below meth c T' locs' cells slots → Fr n0 locs' → T'.heap = h' → Wr h h' a i (.int x.toUInt32.toUInt16.toUInt32.toInt32) → own_Arf Z h' a .char n (fun j => if j = i then .int x.toUInt32.toUInt16.toUInt32.toInt32 else f j) → own_Fin p e below s C N Q (T'.setTop (mkF m (pc + 1) Ls rest))) :
    own_Fin p e below s C N Q (T.setTop (mkF m pc Ls (.int x :: .int j :: .ref a :: rest))) := by
  have F' := F
  obtain ⟨cl, A, r, q⟩ := F
  exact own_st hj F' hN ge (stC X hx hZ eT A (j := j) (own_in hj (by rw [r]; exact hi)) (g := mkF m pc Ls (.int x :: .int j :: .ref a :: rest)) rfl rfl hd) k
theorem own_zastore (X : Stand p l e R s m args below meth c T locs cells slots) (hx : p.tables.exec = Jvm.exec) (hZ : Z.Warmed39 s.vm) (eT : T.heap = h) (F : own_Arf Z h a .boolean n f) (hN : Fr n0 locs) (ge : n0 ≤ a) {j x : Int32} {i : Nat} (hj : j.toInt = i) (hi : i < n) (hd : decode c.code pc = .ok (.bastore, 1))
    (k : ∀ T' h' locs', Stand p l e R s m args below meth c T' locs' cells slots → Fr n0 locs' → T'.heap = h' → Wr h h' a i (.int (x &&& 1)) → own_Arf Z h' a .boolean n (fun j => if j = i then .int (x &&& 1) else f j) → own_Fin p e below s C N Q (T'.setTop (mkF m (pc + 1) Ls rest))) :
    own_Fin p e below s C N Q (T.setTop (mkF m pc Ls (.int x :: .int j :: .ref a :: rest))) := by
  have F' := F
  obtain ⟨cl, A, r, q⟩ := F
  exact own_st hj F' hN ge (stZ X hx hZ eT A (j := j) (own_in hj (by rw [r]; exact hi)) (g := mkF m pc Ls (.int x :: .int j :: .ref a :: rest)) rfl rfl hd) k
theorem own_newP (X : Stand p l e R s m args below meth c T locs cells slots) (hx : p.tables.exec = Jvm.exec) (hZ : Z.Warmed39 s.vm) {aty : ArrayType} (w : (Cond.arrayClass (newarray.typeOf aty)).before a0 Z = true) (eT : T.heap = h) (hd : decode c.code pc = .ok (.newarray aty, 2)) {z : Int32} (hz : z.toInt = n) {cap : Nat} (hcap : n ≤ cap) (hb : cap * 8 ≤ 536870912) (hc : cells + 1 ≤ R.cells) (hl : slots + cap ≤ R.slots)
    (k : ∀ T' h' b, Stand p l e R s m args below meth c T' locs (cells + 1) (slots + cap) → T'.heap = h' → Ext h h' → b = h.size → own_Arf Z h' b (newarray.typeOf aty) n (fun _ => defaultValue (newarray.typeOf aty)) → own_Fin p e below s C N Q (T'.setTop (mkF m (pc + 2) Ls (.ref b :: rest)))) :
    own_Fin p e below s C N Q (T.setTop (mkF m pc Ls (.int z :: rest))) := by
  obtain ⟨T', h', cA, X', e', E, A, st⟩ := newP X hx hZ w eT (g := mkF m pc Ls (.int z :: rest)) rfl hd rfl (by rw [Int32.lt_iff_toInt_lt, hz]; show ¬ (n : Int) < 0; omega) (cap := cap) (by rw [own_nc hz]; exact hcap) hb hc hl
  exact own_of st (k T' h' _ X' e' E rfl (own_Arf.new A hz))
end Ar
/-! objects -/
section Ob
variable {n0 : Nat} {v : Value}
theorem own_getF (X : Stand p l e R s m args below meth c T locs cells slots) (hx : p.tables.exec = Jvm.exec) (hZ : Z.Warmed39 s.vm) {own O n d : String} {index : Nat} (hown : s.vm.findClass own = some m.cls) (w : (Cond.fieldLink own index O n d).before a0 Z = true) (eT : T.heap = h) (F : Fld Z h a O n d v) (hd : decode c.code pc = .ok (.getfield index, 3))
    (k : ∀ T', Stand p l e R s m args below meth c T' locs cells slots → T'.heap = h → own_Fin p e below s C N Q (T'.setTop (mkF m (pc + 3) Ls (v :: rest)))) :
    own_Fin p e below s C N Q (T.setTop (mkF m pc Ls (.ref a :: rest))) := by
  obtain ⟨T', X', e', st⟩ := getF X hx hZ hown (host := "") (Or.inl w) Via.refl eT F (g := mkF m pc Ls (.ref a :: rest)) rfl rfl hd
  exact own_of st (k T' X' e')
theorem own_putF (X : Stand p l e R s m args below meth c T locs cells slots) (hx : p.tables.exec = Jvm.exec) (hZ : Z.Warmed39 s.vm) {own O n d K : String} {index kk : Nat} {ty : FieldType} {old : Value} (hown : s.vm.findClass own = some m.cls) (w : (Cond.fieldLink own index O n d).before a0 Z = true) (eT : T.heap = h) (F : Fld Z h a O n d old) (E : Exa Z h a K)
    (L : (Cond.lays K O n d).before a0 Z = true ∨ ((Cond.laysFinal K O n d).before a0 Z = true ∧ own = O ∧ meth.name = "<init>")) (wi : (Cond.instantiable K kk).before a0 Z = true) (hty : parseFieldDescriptor d = some ty) (hn : narrow ty v = v) (hf : fits ty v = true) (hN : Fr n0 locs) (ge : n0 ≤ a) (hd : decode c.code pc = .ok (.putfield index, 3))
    (k : ∀ T' h' locs', Stand p l e R s m args below meth c T' locs' cells slots → Fr n0 locs' → T'.heap = h' → Wr h h' a (slotOf Z O n d) v → own_Fin p e below s C N Q (T'.setTop (mkF m (pc + 3) Ls rest))) :
    own_Fin p e below s C N Q (T.setTop (mkF m pc Ls (v :: .ref a :: rest))) := by
  obtain ⟨T', h', X', e', W, st⟩ := putF X hx hZ hown (host := "") (Or.inl w) Via.refl eT F E L wi hty hn hf (g := mkF m pc Ls (v :: .ref a :: rest)) rfl rfl hd
  exact own_of st (k T' h' _ X' (Fr.snoc X' hN ge) e' W)
theorem own_newO (X : Stand p l e R s m args below meth c T locs cells slots) (hx : p.tables.exec = Jvm.exec) (hZ : Z.Warmed39 s.vm) {own K : String} {index n : Nat} (hown : s.vm.findClass own = some m.cls) (w : (Cond.classLink own index K).before a0 Z = true) (wi : (Cond.instantiable K n).before a0 Z = true) (wz : (Cond.initialized K).before a0 Z = true) (eT : T.heap = h) (hd : decode c.code pc = .ok (.new index, 3)) (hc : cells + 1 ≤ R.cells) (hl : slots + n ≤ R.slots)
    (k : ∀ T' h' b, Stand p l e R s m args below meth c T' locs (cells + 1) (slots + n) → T'.heap = h' → Ext h h' → b = h.size → Exa Z h' b K → (∀ {O nm d : String} {ty : FieldType}, Laid Z a0 K O nm d → parseFieldDescriptor d = some ty → Fld Z h' b O nm d (defaultValue ty)) → own_Fin p e below s C N Q (T'.setTop (mkF m (pc + 3) Ls (.ref b :: rest)))) :
    own_Fin p e below s C N Q (T.setTop (mkF m pc Ls rest)) := by
  obtain ⟨T', h', X', e', E, A, D, -, st⟩ := newO X hx hZ hown w wi wz eT (g := mkF m pc Ls rest) rfl hd hc hl
  exact own_of st (k T' h' _ X' e' E rfl A D)
theorem own_initO (X : Stand p l e R s m args below meth c T locs cells slots) (hx : p.tables.exec = Jvm.exec) (hZ : Z.Warmed39 s.vm) {own : String} {idx : Nat} (hown : s.vm.findClass own = some m.cls) (w1 : (Cond.methodLink own idx Lib.objectInit).before a0 Z = true) (w2 : (Cond.instanceMethod Lib.objectInit).before a0 Z = true) (w3 : (Cond.code Lib.objectInit ⟨#[0xb1]⟩ 1 none).before a0 Z = true) (eT : T.heap = h) (hsize : Ls.size = c.maxLocals) (hd : decode c.code pc = .ok (.invokespecial idx, 3)) (hf : 1 ≤ R.frames) {W : Nat} (hW : (rest.map fun v => v.category).sum ≤ W) (hl : W + 12 ≤ R.locals)
    (k : ∀ T', Stand p l e R s m args below meth c T' locs cells slots → T'.heap = h → own_Fin p e below s C N Q (T'.setTop (mkF m (pc + 3) Ls rest))) :
    own_Fin p e below s C N Q (T.setTop (mkF m pc Ls (.ref a :: rest))) := by
  obtain ⟨T', X', e', st⟩ := initO X hx hZ hown w1 w2 w3 eT (g := mkF m pc Ls (.ref a :: rest)) rfl hsize rfl hd hf (W := W) (by show 2 * 0 + _ ≤ _; simpa using hW) hl
  exact own_of st (k T' X' e')
theorem own_wide (X : Stand p l e R s m args below meth c T locs cells slots) {cells' slots' : Nat} (h1 : cells ≤ cells') (h2 : slots ≤ slots') : Stand p l e R s m args below meth c T locs cells' slots' := { X with same := X.same.mono h1 h2 }
end Ob
theorem own_lremM {g : JFrame} {target : State} (X : Stand p l e R s m args below meth c T locs cells slots) (hx : p.tables.exec = Jvm.exec) (hg : g.method = m) {x y : Int64} (hd : decode c.code g.pc = .ok (.lrem, 1)) (hs : g.stack = .long y :: .long x :: rest) (hy : y ≠ 0)
    (hr : Steps p.tables e below (T.setTop { g with pc := g.pc + 1, stack := .long (x % y) :: rest }) target) : Steps p.tables e below (T.setTop g) target := by
  refine XS.lrem X.here hx hg hd hs hy ?_
  rw [lrem_mod]; exact hr
end OwnKit
def own_iushr (x y : Int32) : Int32 := (x.toUInt32 >>> (y &&& 31).toUInt32).toInt32
def own_ishl (x y : Int32) : Int32 := x <<< (y &&& 31)
def own_ishr (x y : Int32) : Int32 := x >>> (y &&& 31)
def own_lushr (x : Int64) (y : Int32) : Int64 := (x.toUInt64 >>> (y &&& 0x3f).toInt64.toUInt64).toInt64
def own_lshl (x : Int64) (y : Int32) : Int64 := x <<< (y &&& 0x3f).toInt64
def own_lshr (x : Int64) (y : Int32) : Int64 := x >>> (y &&& 0x3f).toInt64
def own_i2b (x : Int32) : Int32 := x.toInt8.toInt32
def own_i2c (x : Int32) : Int32 := x.toUInt32.toUInt16.toUInt32.toInt32
def own_i2s (x : Int32) : Int32 := x.toInt16.toInt32
end Jvm.RoadKit
namespace Jvm.Pilot.@@N@@
open Jvm Jvm.ClassFile Sem Op Lib Jvm.Free Jvm.Stand Jvm.LawKit Jvm.RoadKit Bundle Jvm.Pilot.@@N@@.Jvm.D
theorem d1_0 : decode prog_63_method_1_code 0 = .ok (.aload_n 0, 1) := by decide +kernel
theorem d1_1 : decode prog_63_method_1_code 1 = .ok (.invokespecial 1, 3) := by decide +kernel
theorem d1_4 : decode prog_63_method_1_code 4 = .ok (.aload_n 0, 1) := by decide +kernel
theorem d1_5 : decode prog_63_method_1_code 5 = .ok (.bipush 16, 2) := by decide +kernel
theorem d1_7 : decode prog_63_method_1_code 7 = .ok (.newarray .long, 2) := by decide +kernel
theorem d1_9 : decode prog_63_method_1_code 9 = .ok (.putfield 9, 3) := by decide +kernel
theorem d1_12 : decode prog_63_method_1_code 12 = .ok (.aload_n 0, 1) := by decide +kernel
theorem d1_13 : decode prog_63_method_1_code 13 = .ok (.bipush 16, 2) := by decide +kernel
theorem d1_15 : decode prog_63_method_1_code 15 = .ok (.newarray .int, 2) := by decide +kernel
theorem d1_17 : decode prog_63_method_1_code 17 = .ok (.putfield 13, 3) := by decide +kernel
theorem d1_20 : decode prog_63_method_1_code 20 = .ok (.aload_n 0, 1) := by decide +kernel
theorem d1_21 : decode prog_63_method_1_code 21 = .ok (.bipush 16, 2) := by decide +kernel
theorem d1_23 : decode prog_63_method_1_code 23 = .ok (.newarray .int, 2) := by decide +kernel
theorem d1_25 : decode prog_63_method_1_code 25 = .ok (.putfield 17, 3) := by decide +kernel
theorem d1_28 : decode prog_63_method_1_code 28 = .ok (.aload_n 0, 1) := by decide +kernel
theorem d1_29 : decode prog_63_method_1_code 29 = .ok (.lload_n 1, 1) := by decide +kernel
theorem d1_30 : decode prog_63_method_1_code 30 = .ok (.putfield 20, 3) := by decide +kernel
theorem d1_33 : decode prog_63_method_1_code 33 = .ok (.return_, 1) := by decide +kernel
theorem d3_0 : decode prog_63_method_3_code 0 = .ok (.aload_n 0, 1) := by decide +kernel
theorem d3_1 : decode prog_63_method_3_code 1 = .ok (.getfield 34, 3) := by decide +kernel
theorem d3_4 : decode prog_63_method_3_code 4 = .ok (.aload_n 0, 1) := by decide +kernel
theorem d3_5 : decode prog_63_method_3_code 5 = .ok (.getfield 9, 3) := by decide +kernel
theorem d3_8 : decode prog_63_method_3_code 8 = .ok (.arraylength, 1) := by decide +kernel
theorem d3_9 : decode prog_63_method_3_code 9 = .ok (.if_icmp .ne 60, 3) := by decide +kernel
theorem d3_12 : decode prog_63_method_3_code 12 = .ok (.ldc2_w 38, 3) := by decide +kernel
theorem d3_15 : decode prog_63_method_3_code 15 = .ok (.aload_n 0, 1) := by decide +kernel
theorem d3_16 : decode prog_63_method_3_code 16 = .ok (.getfield 34, 3) := by decide +kernel
theorem d3_19 : decode prog_63_method_3_code 19 = .ok (.i2l, 1) := by decide +kernel
theorem d3_20 : decode prog_63_method_3_code 20 = .ok (.lmul, 1) := by decide +kernel
theorem d3_21 : decode prog_63_method_3_code 21 = .ok (.ldc2_w 42, 3) := by decide +kernel
theorem d3_24 : decode prog_63_method_3_code 24 = .ok (.invokestatic 44, 3) := by decide +kernel
theorem d3_27 : decode prog_63_method_3_code 27 = .ok (.l2i, 1) := by decide +kernel
theorem d3_28 : decode prog_63_method_3_code 28 = .ok (.istore 5, 2) := by decide +kernel
theorem d3_30 : decode prog_63_method_3_code 30 = .ok (.aload_n 0, 1) := by decide +kernel
theorem d3_31 : decode prog_63_method_3_code 31 = .ok (.aload_n 0, 1) := by decide +kernel
theorem d3_32 : decode prog_63_method_3_code 32 = .ok (.getfield 9, 3) := by decide +kernel
theorem d3_35 : decode prog_63_method_3_code 35 = .ok (.iload 5, 2) := by decide +kernel
theorem d3_37 : decode prog_63_method_3_code 37 = .ok (.invokestatic 50, 3) := by decide +kernel
theorem d3_40 : decode prog_63_method_3_code 40 = .ok (.putfield 9, 3) := by decide +kernel
theorem d3_43 : decode prog_63_method_3_code 43 = .ok (.aload_n 0, 1) := by decide +kernel
theorem d3_44 : decode prog_63_method_3_code 44 = .ok (.aload_n 0, 1) := by decide +kernel
theorem d3_45 : decode prog_63_method_3_code 45 = .ok (.getfield 13, 3) := by decide +kernel
theorem d3_48 : decode prog_63_method_3_code 48 = .ok (.iload 5, 2) := by decide +kernel
theorem d3_50 : decode prog_63_method_3_code 50 = .ok (.invokestatic 56, 3) := by decide +kernel
theorem d3_53 : decode prog_63_method_3_code 53 = .ok (.putfield 13, 3) := by decide +kernel
theorem d3_56 : decode prog_63_method_3_code 56 = .ok (.aload_n 0, 1) := by decide +kernel
theorem d3_57 : decode prog_63_method_3_code 57 = .ok (.aload_n 0, 1) := by decide +kernel
theorem d3_58 : decode prog_63_method_3_code 58 = .ok (.getfield 17, 3) := by decide +kernel
theorem d3_61 : decode prog_63_method_3_code 61 = .ok (.iload 5, 2) := by decide +kernel
theorem d3_63 : decode prog_63_method_3_code 63 = .ok (.invokestatic 56, 3) := by decide +kernel
theorem d3_66 : decode prog_63_method_3_code 66 = .ok (.putfield 17, 3) := by decide +kernel
theorem d3_69 : decode prog_63_method_3_code 69 = .ok (.aload_n 0, 1) := by decide +kernel
theorem d3_70 : decode prog_63_method_3_code 70 = .ok (.getfield 9, 3) := by decide +kernel
theorem d3_73 : decode prog_63_method_3_code 73 = .ok (.aload_n 0, 1) := by decide +kernel
theorem d3_74 : decode prog_63_method_3_code 74 = .ok (.getfield 34, 3) := by decide +kernel
theorem d3_77 : decode prog_63_method_3_code 77 = .ok (.lload_n 1, 1) := by decide +kernel
theorem d3_78 : decode prog_63_method_3_code 78 = .ok (.lastore, 1) := by decide +kernel
theorem d3_79 : decode prog_63_method_3_code 79 = .ok (.aload_n 0, 1) := by decide +kernel
theorem d3_80 : decode prog_63_method_3_code 80 = .ok (.getfield 13, 3) := by decide +kernel
theorem d3_83 : decode prog_63_method_3_code 83 = .ok (.aload_n 0, 1) := by decide +kernel
theorem d3_84 : decode prog_63_method_3_code 84 = .ok (.getfield 34, 3) := by decide +kernel
theorem d3_87 : decode prog_63_method_3_code 87 = .ok (.iload_n 3, 1) := by decide +kernel
theorem d3_88 : decode prog_63_method_3_code 88 = .ok (.iastore, 1) := by decide +kernel
theorem d3_89 : decode prog_63_method_3_code 89 = .ok (.aload_n 0, 1) := by decide +kernel
theorem d3_90 : decode prog_63_method_3_code 90 = .ok (.getfield 17, 3) := by decide +kernel
theorem d3_93 : decode prog_63_method_3_code 93 = .ok (.aload_n 0, 1) := by decide +kernel
theorem d3_94 : decode prog_63_method_3_code 94 = .ok (.getfield 34, 3) := by decide +kernel
theorem d3_97 : decode prog_63_method_3_code 97 = .ok (.iload 4, 2) := by decide +kernel
theorem d3_99 : decode prog_63_method_3_code 99 = .ok (.iastore, 1) := by decide +kernel
theorem d3_100 : decode prog_63_method_3_code 100 = .ok (.aload_n 0, 1) := by decide +kernel
theorem d3_101 : decode prog_63_method_3_code 101 = .ok (.dup, 1) := by decide +kernel
theorem d3_102 : decode prog_63_method_3_code 102 = .ok (.getfield 34, 3) := by decide +kernel
theorem d3_105 : decode prog_63_method_3_code 105 = .ok (.iconst 1, 1) := by decide +kernel
theorem d3_106 : decode prog_63_method_3_code 106 = .ok (.iadd, 1) := by decide +kernel
theorem d3_107 : decode prog_63_method_3_code 107 = .ok (.putfield 34, 3) := by decide +kernel
theorem d3_110 : decode prog_63_method_3_code 110 = .ok (.return_, 1) := by decide +kernel
theorem d4_0 : decode prog_63_method_6_code 0 = .ok (.aload_n 0, 1) := by decide +kernel
theorem d4_1 : decode prog_63_method_6_code 1 = .ok (.getfield 13, 3) := by decide +kernel
theorem d4_4 : decode prog_63_method_6_code 4 = .ok (.lload_n 1, 1) := by decide +kernel
theorem d4_5 : decode prog_63_method_6_code 5 = .ok (.aload_n 0, 1) := by decide +kernel
theorem d4_6 : decode prog_63_method_6_code 6 = .ok (.getfield 20, 3) := by decide +kernel
theorem d4_9 : decode prog_63_method_6_code 9 = .ok (.lsub, 1) := by decide +kernel
theorem d4_10 : decode prog_63_method_6_code 10 = .ok (.l2i, 1) := by decide +kernel
theorem d4_11 : decode prog_63_method_6_code 11 = .ok (.iaload, 1) := by decide +kernel
theorem d4_12 : decode prog_63_method_6_code 12 = .ok (.ireturn, 1) := by decide +kernel
theorem pd_1 : parseMethodDescriptor "(J)I" = some ⟨[.long], some .int⟩ := by decide +kernel
theorem pd_2 : parseMethodDescriptor "(J)V" = some ⟨[.long], none⟩ := by decide +kernel
theorem pd_3 : parseMethodDescriptor "(JII)V" = some ⟨[.long, .int, .int], none⟩ := by decide +kernel
theorem pd_4 : parseMethodDescriptor "(JJIIII)Z" = some ⟨[.long, .long, .int, .int, .int, .int], some .boolean⟩ := by decide +kernel
theorem pn_0 : plainFor x = true := plainFor_of_name (by first | (simp [plainName, overriddenIn]; done) | decide +kernel)
theorem ef_0 (m : MethodId) (x0 : Int64) (x1 : Int64) (x2 : Int32) (x3 : Int32) (x4 : Int32) (x5 : Int32) : entryFrame m #[(.long x0), (.long x1), (.int x2), (.int x3), (.int x4), (.int x5)] maxLocals = mkF m 0 #[.val (.long x0), .second, .val (.long x1), .second, .val (.int x2), .val (.int x3), .val (.int x4), .val (.int x5), .unset] [] := by first | (simp [entryFrame, mkF, argsToLocals, Value.category, maxLocals]; done) | rfl
theorem pn_1 : plainFor (⟨"com/example/log_to_queue/logtoqueue/queue/IndexEntries", "<init>", "(J)V"⟩ : MethodName) = true := plainFor_of_name (by first | (simp [plainName, overriddenIn]; done) | decide +kernel)
theorem ef_1 (m : MethodId) (x0 : Addr) (x1 : Int64) : entryFrame m #[(.ref x0), (.long x1)] 3 = mkF m 0 #[.val (.ref x0), .val (.long x1), .second] [] := by first | (simp [entryFrame, mkF, argsToLocals, Value.category]; done) | rfl
theorem pn_3 : plainFor (⟨"com/example/log_to_queue/logtoqueue/queue/IndexEntries", "add", "(JII)V"⟩ : MethodName) = true := plainFor_of_name (by first | (simp [plainName, overriddenIn]; done) | decide +kernel)
theorem ef_3 (m : MethodId) (x0 : Addr) (x1 : Int64) (x2 : Int32) (x3 : Int32) : entryFrame m #[(.ref x0), (.long x1), (.int x2), (.int x3)] 6 = mkF m 0 #[.val (.ref x0), .val (.long x1), .second, .val (.int x2), .val (.int x3), .unset] [] := by first | (simp [entryFrame, mkF, argsToLocals, Value.category]; done) | rfl
theorem pn_4 : plainFor (⟨"com/example/log_to_queue/logtoqueue/queue/IndexEntries", "recordSize", "(J)I"⟩ : MethodName) = true := plainFor_of_name (by first | (simp [plainName, overriddenIn]; done) | decide +kernel)
theorem ef_4 (m : MethodId) (x0 : Addr) (x1 : Int64) : entryFrame m #[(.ref x0), (.long x1)] 3 = mkF m 0 #[.val (.ref x0), .val (.long x1), .second] [] := by first | (simp [entryFrame, mkF, argsToLocals, Value.category]; done) | rfl
theorem own_all8 {P : Int8 → Prop} (h : ∀ n : Fin 256, P (.ofBitVec (.ofFin n))) (b : Int8) : P b := by
  have := h b.toBitVec.toFin
  simpa using this
theorem own_fin (x : Int32) (K : Nat) (h0 : 0 ≤ x.toInt) (h1 : x.toInt < K) : ∃ n : Nat, n < K ∧ x = Int32.ofInt (n : Int) :=
  ⟨x.toInt.toNat, by omega, by rw [Int.toNat_of_nonneg h0, Int32.ofInt_toInt]⟩
theorem own_lushr_nat (x : Int64) (q : Int32) (k : Nat) (hk : q.toBitVec.toNat % 64 = k) : (own_lushr x q).toBitVec.toNat = x.toBitVec.toNat / 2 ^ k := by
  show (x.toBitVec >>> ((q &&& 0x3f).toInt64.toBitVec % 64)).toNat = _
  rw [BitVec.ushiftRight_eq', BitVec.toNat_ushiftRight, Nat.shiftRight_eq_div_pow, BitVec.toNat_umod, (sm64 q k hk).1, BitVec.toNat_ofNat]
  congr 2
  have := (sm64 q k hk).2
  show k % 2 ^ 64 % 64 = k
  omega
theorem own_l0 (x : Int64) : x = 0 ↔ x.toBitVec.toNat = 0 := ⟨fun h => by subst h; rfl, fun h => Int64.toBitVec_inj.mp (BitVec.eq_of_toNat_eq h)⟩
theorem own_shsh (x : Int64) (a b c : Int32) (i j : Nat) (ha : a.toBitVec.toNat % 64 = i) (hb : b.toBitVec.toNat % 64 = j) (hc : c.toBitVec.toNat % 64 = i + j) : own_lushr (own_lushr x a) b = own_lushr x c := by
  apply Int64.toBitVec_inj.mp
  apply BitVec.eq_of_toNat_eq
  rw [own_lushr_nat _ b j hb, own_lushr_nat x a i ha, own_lushr_nat x c _ hc, Nat.div_div_eq_div_mul, Nat.pow_add]
theorem own_shz (x : Int64) (a b : Int32) (i j : Nat) (ha : a.toBitVec.toNat % 64 = i) (hb : b.toBitVec.toNat % 64 = j) (h : 64 ≤ i + j) : own_lushr (own_lushr x a) b = 0 := by
  rw [own_l0, own_lushr_nat _ b j hb, own_lushr_nat x a i ha, Nat.div_div_eq_div_mul, ← Nat.pow_add]
  exact Nat.div_eq_of_lt (Nat.lt_of_lt_of_le x.toBitVec.isLt (Nat.pow_le_pow_right (by decide) h))
theorem own_true {P : Prop} [Decidable P] (h : P) : ((if P then (1 : Int32) else (0 : Int32)) &&& 1) = 1 := by rw [if_pos h]; rfl
def own_Obj (Z : State) (h : Heap) (n0 : Nat) (o : Addr) (first : Int64) (len : Int32) (a1 a2 a3 : Addr) (f1 : Nat → Int64) (f2 f3 : Nat → Int32) : Prop :=
  Exa Z h o "com/example/log_to_queue/logtoqueue/queue/IndexEntries" ∧ Fld Z h o "com/example/log_to_queue/logtoqueue/queue/IndexEntries" "first" "J" (.long first) ∧ Fld Z h o "com/example/log_to_queue/logtoqueue/queue/IndexEntries" "length" "I" (.int len) ∧ Fld Z h o "com/example/log_to_queue/logtoqueue/queue/IndexEntries" "positions" "[J" (.ref a1) ∧ Fld Z h o "com/example/log_to_queue/logtoqueue/queue/IndexEntries" "sizes" "[I" (.ref a2) ∧ Fld Z h o "com/example/log_to_queue/logtoqueue/queue/IndexEntries" "tagFields" "[I" (.ref a3) ∧
  own_Arf Z h a1 .long 16 (fun j => .long (f1 j)) ∧ own_Arf Z h a2 .int 16 (fun j => .int (f2 j)) ∧ own_Arf Z h a3 .int 16 (fun j => .int (f3 j)) ∧
  (o ≠ a1 ∧ o ≠ a2 ∧ o ≠ a3 ∧ a1 ≠ a2 ∧ a1 ≠ a3 ∧ a2 ≠ a3) ∧ n0 ≤ o ∧ n0 ≤ a1 ∧ n0 ≤ a2 ∧ n0 ≤ a3
set_option maxRecDepth 65536 in
set_option maxHeartbeats 40000000 in
theorem met1 (l : Launch) (Z : State) (a0 : Array Value) (hw : ∀ d ∈ tables_1, d.before a0 Z = true) (x0 : Addr) (x1 : Int64) (h0 : Heap) (n0 : Nat) (Z0 : n0 ≤ h0.size) (E : Exa Z h0 x0 "com/example/log_to_queue/logtoqueue/queue/IndexEntries") (Ff : Fld Z h0 x0 "com/example/log_to_queue/logtoqueue/queue/IndexEntries" "first" "J" (.long (0 : Int64))) (Fl : Fld Z h0 x0 "com/example/log_to_queue/logtoqueue/queue/IndexEntries" "length" "I" (.int (0 : Int32))) (Fp : Fld Z h0 x0 "com/example/log_to_queue/logtoqueue/queue/IndexEntries" "positions" "[J" .null) (Fs : Fld Z h0 x0 "com/example/log_to_queue/logtoqueue/queue/IndexEntries" "sizes" "[I" .null) (Ft : Fld Z h0 x0 "com/example/log_to_queue/logtoqueue/queue/IndexEntries" "tagFields" "[I" .null) (go : n0 ≤ x0) :
    own_Met l Z (⟨"com/example/log_to_queue/logtoqueue/queue/IndexEntries", "<init>", "(J)V"⟩ : MethodName) prog_63_method_1_code 3 none { frames := 1, cells := 3, slots := 48, locals := 12 } #[(.ref x0), (.long x1)] h0 (fun v h L => v = none ∧ Fr n0 L ∧ n0 ≤ h.size ∧ ∃ a1 a2 a3, own_Obj Z h n0 x0 x1 0 a1 a2 a3 (fun _ => 0) (fun _ => 0) (fun _ => 0)) := by
  refine own_met pn_1 ?_
  intro p e s m below meth c T0 X0 hx hby hml hown hZ e0 hret hlk hnm
  rw [ef_1 m x0 x1]
  have N0 := Fr.nil n0
  show own_Fin _ _ _ _ _ _ _ (T0.setTop (mkF m 0 #[.val (.ref x0), .val (.long x1), .second] []))
  refine own_of (fun _ kk => XS.aloadN X0.here hx rfl (hb hby d1_0) rfl rfl kk) ?_
  show own_Fin _ _ _ _ _ _ _ (T0.setTop (mkF m 1 #[.val (.ref x0), .val (.long x1), .second] [(.ref x0)]))
  refine own_initO X0 hx hZ hown (hw _ (List.mem_of_getElem? (i := 7) rfl)) (hw _ (List.mem_of_getElem? (i := 8) rfl)) (hw _ (List.mem_of_getElem? (i := 9) rfl)) e0 (by rw [hml]; rfl) (hb hby d1_1) (by decide) (W := 0) (Nat.le_of_eq rfl) (by decide) ?_
  intro T1 X1 e1
  show own_Fin _ _ _ _ _ _ _ (T1.setTop (mkF m 4 #[.val (.ref x0), .val (.long x1), .second] []))
  refine own_of (fun _ kk => XS.aloadN X1.here hx rfl (hb hby d1_4) rfl rfl kk) ?_
  show own_Fin _ _ _ _ _ _ _ (T1.setTop (mkF m 5 #[.val (.ref x0), .val (.long x1), .second] [(.ref x0)]))
  refine own_of (fun _ kk => XS.bipush X1.here hx rfl (hb hby d1_5) kk) ?_
  show own_Fin _ _ _ _ _ _ _ (T1.setTop (mkF m 7 #[.val (.ref x0), .val (.long x1), .second] [(.int (16 : Int32)), (.ref x0)]))
  refine own_newP X1 hx hZ (hw _ (List.mem_of_getElem? (i := 10) rfl)) e1 (hb hby d1_7) (n := 16) (by decide) (cap := 16) (Nat.le_refl _) (by decide) (by decide) (by decide) ?_
  intro T2 h2 b2 X2 e2 E2 g2 A2
  have ne_x0_b2 : x0 ≠ b2 := Nat.ne_of_lt (by rw [g2]; exact E.lt)
  replace E := E.ext E2
  replace Ff := Ff.ext E2
  replace Fl := Fl.ext E2
  replace Fp := Fp.ext E2
  replace Fs := Fs.ext E2
  replace Ft := Ft.ext E2
  have Z2 : n0 ≤ h2.size := Nat.le_trans Z0 E2.1
  have ge_b2 : n0 ≤ b2 := by rw [g2]; exact Z0
  replace A2 : own_Arf Z h2 b2 .long 16 (fun _ => (.long (0 : Int64))) := A2
  show own_Fin _ _ _ _ _ _ _ (T2.setTop (mkF m 9 #[.val (.ref x0), .val (.long x1), .second] [(.ref b2), (.ref x0)]))
  refine own_putF X2 hx hZ hown (hw _ (List.mem_of_getElem? (i := 11) rfl)) e2 Fp E (Or.inl (hw _ (List.mem_of_getElem? (i := 12) rfl))) (hw _ (List.mem_of_getElem? (i := 2) rfl)) (ty := (.array .long)) (by decide) rfl rfl N0 go (hb hby d1_9) ?_
  intro T3 h3 l3 X3 N3 e3 W3
  have ZW3 : n0 ≤ h3.size := by rw [Wr.size W3]; exact Z2
  replace E := E.wr W3
  replace Ff := Ff.other W3 (Or.inr (slot_ne (Or.inr (hw _ (List.mem_of_getElem? (i := 19) rfl))) (Or.inl (hw _ (List.mem_of_getElem? (i := 12) rfl))) (by decide) (t := .long) (t' := (.array .long)) (by decide) (by decide)))
  replace Fl := Fl.other W3 (Or.inr (slot_ne (Or.inl (hw _ (List.mem_of_getElem? (i := 26) rfl))) (Or.inl (hw _ (List.mem_of_getElem? (i := 12) rfl))) (by decide) (t := .int) (t' := (.array .long)) (by decide) (by decide)))
  replace Fp := Fp.same W3
  replace Fs := Fs.other W3 (Or.inr (slot_ne (Or.inl (hw _ (List.mem_of_getElem? (i := 15) rfl))) (Or.inl (hw _ (List.mem_of_getElem? (i := 12) rfl))) (by decide) (t := (.array .int)) (t' := (.array .long)) (by decide) (by decide)))
  replace Ft := Ft.other W3 (Or.inr (slot_ne (Or.inl (hw _ (List.mem_of_getElem? (i := 17) rfl))) (Or.inl (hw _ (List.mem_of_getElem? (i := 12) rfl))) (by decide) (t := (.array .int)) (t' := (.array .long)) (by decide) (by decide)))
  replace A2 := A2.other W3 (Ne.symm ne_x0_b2)
  show own_Fin _ _ _ _ _ _ _ (T3.setTop (mkF m 12 #[.val (.ref x0), .val (.long x1), .second] []))
  refine own_of (fun _ kk => XS.aloadN X3.here hx rfl (hb hby d1_12) rfl rfl kk) ?_
  show own_Fin _ _ _ _ _ _ _ (T3.setTop (mkF m 13 #[.val (.ref x0), .val (.long x1), .second] [(.ref x0)]))
  refine own_of (fun _ kk => XS.bipush X3.here hx rfl (hb hby d1_13) kk) ?_
  show own_Fin _ _ _ _ _ _ _ (T3.setTop (mkF m 15 #[.val (.ref x0), .val (.long x1), .second] [(.int (16 : Int32)), (.ref x0)]))
  refine own_newP X3 hx hZ (hw _ (List.mem_of_getElem? (i := 13) rfl)) e3 (hb hby d1_15) (n := 16) (by decide) (cap := 16) (Nat.le_refl _) (by decide) (by decide) (by decide) ?_
  intro T4 h4 b4 X4 e4 E4 g4 A4
  have ne_x0_b4 : x0 ≠ b4 := Nat.ne_of_lt (by rw [g4]; exact E.lt)
  have ne_b2_b4 : b2 ≠ b4 := Nat.ne_of_lt (by rw [g4]; exact A2.lt)
  replace E := E.ext E4
  replace Ff := Ff.ext E4
  replace Fl := Fl.ext E4
  replace Fp := Fp.ext E4
  replace Fs := Fs.ext E4
  replace Ft := Ft.ext E4
  replace A2 := A2.ext E4
  have Z4 : n0 ≤ h4.size := Nat.le_trans ZW3 E4.1
  have ge_b4 : n0 ≤ b4 := by rw [g4]; exact ZW3
  replace A4 : own_Arf Z h4 b4 .int 16 (fun _ => (.int (0 : Int32))) := A4
  show own_Fin _ _ _ _ _ _ _ (T4.setTop (mkF m 17 #[.val (.ref x0), .val (.long x1), .second] [(.ref b4), (.ref x0)]))
  refine own_putF X4 hx hZ hown (hw _ (List.mem_of_getElem? (i := 14) rfl)) e4 Fs E (Or.inl (hw _ (List.mem_of_getElem? (i := 15) rfl))) (hw _ (List.mem_of_getElem? (i := 2) rfl)) (ty := (.array .int)) (by decide) rfl rfl N3 go (hb hby d1_17) ?_
  intro T5 h5 l5 X5 N5 e5 W5
  have ZW5 : n0 ≤ h5.size := by rw [Wr.size W5]; exact Z4
  replace E := E.wr W5
  replace Ff := Ff.other W5 (Or.inr (slot_ne (Or.inr (hw _ (List.mem_of_getElem? (i := 19) rfl))) (Or.inl (hw _ (List.mem_of_getElem? (i := 15) rfl))) (by decide) (t := .long) (t' := (.array .int)) (by decide) (by decide)))
  replace Fl := Fl.other W5 (Or.inr (slot_ne (Or.inl (hw _ (List.mem_of_getElem? (i := 26) rfl))) (Or.inl (hw _ (List.mem_of_getElem? (i := 15) rfl))) (by decide) (t := .int) (t' := (.array .int)) (by decide) (by decide)))
  replace Fp := Fp.other W5 (Or.inr (slot_ne (Or.inl (hw _ (List.mem_of_getElem? (i := 12) rfl))) (Or.inl (hw _ (List.mem_of_getElem? (i := 15) rfl))) (by decide) (t := (.array .long)) (t' := (.array .int)) (by decide) (by decide)))
  replace Fs := Fs.same W5
  replace Ft := Ft.other W5 (Or.inr (slot_ne (Or.inl (hw _ (List.mem_of_getElem? (i := 17) rfl))) (Or.inl (hw _ (List.mem_of_getElem? (i := 15) rfl))) (by decide) (t := (.array .int)) (t' := (.array .int)) (by decide) (by decide)))
  replace A2 := A2.other W5 (Ne.symm ne_x0_b2)
  replace A4 := A4.other W5 (Ne.symm ne_x0_b4)
  show own_Fin _ _ _ _ _ _ _ (T5.setTop (mkF m 20 #[.val (.ref x0), .val (.long x1), .second] []))
  refine own_of (fun _ kk => XS.aloadN X5.here hx rfl (hb hby d1_20) rfl rfl kk) ?_
  show own_Fin _ _ _ _ _ _ _ (T5.setTop (mkF m 21 #[.val (.ref x0), .val (.long x1), .second] [(.ref x0)]))
  refine own_of (fun _ kk => XS.bipush X5.here hx rfl (hb hby d1_21) kk) ?_
  show own_Fin _ _ _ _ _ _ _ (T5.setTop (mkF m 23 #[.val (.ref x0), .val (.long x1), .second] [(.int (16 : Int32)), (.ref x0)]))
  refine own_newP X5 hx hZ (hw _ (List.mem_of_getElem? (i := 13) rfl)) e5 (hb hby d1_23) (n := 16) (by decide) (cap := 16) (Nat.le_refl _) (by decide) (by decide) (by decide) ?_
  intro T6 h6 b6 X6 e6 E6 g6 A6
  have ne_x0_b6 : x0 ≠ b6 := Nat.ne_of_lt (by rw [g6]; exact E.lt)
  have ne_b2_b6 : b2 ≠ b6 := Nat.ne_of_lt (by rw [g6]; exact A2.lt)
  have ne_b4_b6 : b4 ≠ b6 := Nat.ne_of_lt (by rw [g6]; exact A4.lt)
  replace E := E.ext E6
  replace Ff := Ff.ext E6
  replace Fl := Fl.ext E6
  replace Fp := Fp.ext E6
  replace Fs := Fs.ext E6
  replace Ft := Ft.ext E6
  replace A2 := A2.ext E6
  replace A4 := A4.ext E6
  have Z6 : n0 ≤ h6.size := Nat.le_trans ZW5 E6.1
  have ge_b6 : n0 ≤ b6 := by rw [g6]; exact ZW5
  replace A6 : own_Arf Z h6 b6 .int 16 (fun _ => (.int (0 : Int32))) := A6
  show own_Fin _ _ _ _ _ _ _ (T6.setTop (mkF m 25 #[.val (.ref x0), .val (.long x1), .second] [(.ref b6), (.ref x0)]))
  refine own_putF X6 hx hZ hown (hw _ (List.mem_of_getElem? (i := 16) rfl)) e6 Ft E (Or.inl (hw _ (List.mem_of_getElem? (i := 17) rfl))) (hw _ (List.mem_of_getElem? (i := 2) rfl)) (ty := (.array .int)) (by decide) rfl rfl N5 go (hb hby d1_25) ?_
  intro T7 h7 l7 X7 N7 e7 W7
  have ZW7 : n0 ≤ h7.size := by rw [Wr.size W7]; exact Z6
  replace E := E.wr W7
  replace Ff := Ff.other W7 (Or.inr (slot_ne (Or.inr (hw _ (List.mem_of_getElem? (i := 19) rfl))) (Or.inl (hw _ (List.mem_of_getElem? (i := 17) rfl))) (by decide) (t := .long) (t' := (.array .int)) (by decide) (by decide)))
  replace Fl := Fl.other W7 (Or.inr (slot_ne (Or.inl (hw _ (List.mem_of_getElem? (i := 26) rfl))) (Or.inl (hw _ (List.mem_of_getElem? (i := 17) rfl))) (by decide) (t := .int) (t' := (.array .int)) (by decide) (by decide)))
  replace Fp := Fp.other W7 (Or.inr (slot_ne (Or.inl (hw _ (List.mem_of_getElem? (i := 12) rfl))) (Or.inl (hw _ (List.mem_of_getElem? (i := 17) rfl))) (by decide) (t := (.array .long)) (t' := (.array .int)) (by decide) (by decide)))
  replace Fs := Fs.other W7 (Or.inr (slot_ne (Or.inl (hw _ (List.mem_of_getElem? (i := 15) rfl))) (Or.inl (hw _ (List.mem_of_getElem? (i := 17) rfl))) (by decide) (t := (.array .int)) (t' := (.array .int)) (by decide) (by decide)))
  replace Ft := Ft.same W7
  replace A2 := A2.other W7 (Ne.symm ne_x0_b2)
  replace A4 := A4.other W7 (Ne.symm ne_x0_b4)
  replace A6 := A6.other W7 (Ne.symm ne_x0_b6)
  show own_Fin _ _ _ _ _ _ _ (T7.setTop (mkF m 28 #[.val (.ref x0), .val (.long x1), .second] []))
  refine own_of (fun _ kk => XS.aloadN X7.here hx rfl (hb hby d1_28) rfl rfl kk) ?_
  show own_Fin _ _ _ _ _ _ _ (T7.setTop (mkF m 29 #[.val (.ref x0), .val (.long x1), .second] [(.ref x0)]))
  refine own_of (fun _ kk => XS.lloadN X7.here hx rfl (hb hby d1_29) rfl kk) ?_
  show own_Fin _ _ _ _ _ _ _ (T7.setTop (mkF m 30 #[.val (.ref x0), .val (.long x1), .second] [(.long x1), (.ref x0)]))
  refine own_putF X7 hx hZ hown (hw _ (List.mem_of_getElem? (i := 18) rfl)) e7 Ff E (Or.inr ⟨(hw _ (List.mem_of_getElem? (i := 19) rfl)), rfl, hnm⟩) (hw _ (List.mem_of_getElem? (i := 2) rfl)) (ty := .long) (by decide) rfl rfl N7 go (hb hby d1_30) ?_
  intro T8 h8 l8 X8 N8 e8 W8
  have ZW8 : n0 ≤ h8.size := by rw [Wr.size W8]; exact ZW7
  replace E := E.wr W8
  replace Ff := Ff.same W8
  replace Fl := Fl.other W8 (Or.inr (slot_ne (Or.inl (hw _ (List.mem_of_getElem? (i := 26) rfl))) (Or.inr (hw _ (List.mem_of_getElem? (i := 19) rfl))) (by decide) (t := .int) (t' := .long) (by decide) (by decide)))
  replace Fp := Fp.other W8 (Or.inr (slot_ne (Or.inl (hw _ (List.mem_of_getElem? (i := 12) rfl))) (Or.inr (hw _ (List.mem_of_getElem? (i := 19) rfl))) (by decide) (t := (.array .long)) (t' := .long) (by decide) (by decide)))
  replace Fs := Fs.other W8 (Or.inr (slot_ne (Or.inl (hw _ (List.mem_of_getElem? (i := 15) rfl))) (Or.inr (hw _ (List.mem_of_getElem? (i := 19) rfl))) (by decide) (t := (.array .int)) (t' := .long) (by decide) (by decide)))
  replace Ft := Ft.other W8 (Or.inr (slot_ne (Or.inl (hw _ (List.mem_of_getElem? (i := 17) rfl))) (Or.inr (hw _ (List.mem_of_getElem? (i := 19) rfl))) (by decide) (t := (.array .int)) (t' := .long) (by decide) (by decide)))
  replace A2 := A2.other W8 (Ne.symm ne_x0_b2)
  replace A4 := A4.other W8 (Ne.symm ne_x0_b4)
  replace A6 := A6.other W8 (Ne.symm ne_x0_b6)
  show own_Fin _ _ _ _ _ _ _ (T8.setTop (mkF m 33 #[.val (.ref x0), .val (.long x1), .second] []))
  exact own_retV X8 hx hlk e8 hret (hb hby d1_33) (by decide) (by decide) ⟨rfl, N8, ZW8, b2, b4, b6, E, Ff, Fl, Fp, Fs, Ft, A2, A4, A6, ⟨ne_x0_b2, ne_x0_b4, ne_x0_b6, ne_b2_b4, ne_b2_b6, ne_b4_b6⟩, go, ge_b2, ge_b4, ge_b6⟩
theorem own_ne16 {len : Int32} {i : Nat} (hl : len.toInt = i) (hi : i < 16) : ¬ len = (16 : Int32) := fun e => by
  subst e
  have : (16 : Int32).toInt = 16 := by decide
  omega
set_option maxRecDepth 65536 in
set_option maxHeartbeats 40000000 in
theorem met3 (l : Launch) (Z : State) (a0 : Array Value) (hw : ∀ d ∈ tables_1, d.before a0 Z = true) (x0 : Addr) (x1 : Int64) (x2 : Int32) (x3 : Int32) (first : Int64) (len : Int32) (a1 : Addr) (a2 : Addr) (a3 : Addr) (f1 : Nat → Int64) (f2 : Nat → Int32) (f3 : Nat → Int32) (i : Nat) (h0 : Heap) (n0 : Nat) (Z0 : n0 ≤ h0.size) (O : own_Obj Z h0 n0 x0 first len a1 a2 a3 f1 f2 f3) (hl : len.toInt = i) (hi : i < 16) :
    own_Met l Z (⟨"com/example/log_to_queue/logtoqueue/queue/IndexEntries", "add", "(JII)V"⟩ : MethodName) prog_63_method_3_code 6 none { frames := 0, cells := 0, slots := 0, locals := 0 } #[(.ref x0), (.long x1), (.int x2), (.int x3)] h0 (fun v h L => v = none ∧ Fr n0 L ∧ n0 ≤ h.size ∧ own_Obj Z h n0 x0 first (len + 1) a1 a2 a3 (fun j => if j = i then x1 else f1 j) (fun j => if j = i then x2 else f2 j) (fun j => if j = i then x3 else f3 j)) := by
  refine own_met pn_3 ?_
  intro p e s m below meth c T0 X0 hx hby hml hown hZ e0 hret hlk hnm
  rw [ef_3 m x0 x1 x2 x3]
  have N0 := Fr.nil n0
  obtain ⟨E, Ff, Fl, Fp, Fs, Ft, A1, A2, A3, ⟨ne1, ne2, ne3, ne4, ne5, ne6⟩, go, ga1, ga2, ga3⟩ := O
  show own_Fin _ _ _ _ _ _ _ (T0.setTop (mkF m 0 #[.val (.ref x0), .val (.long x1), .second, .val (.int x2), .val (.int x3), .unset] []))
  refine own_of (fun _ kk => XS.aloadN X0.here hx rfl (hb hby d3_0) rfl rfl kk) ?_
  show own_Fin _ _ _ _ _ _ _ (T0.setTop (mkF m 1 #[.val (.ref x0), .val (.long x1), .second, .val (.int x2), .val (.int x3), .unset] [(.ref x0)]))
  refine own_getF X0 hx hZ hown (hw _ (List.mem_of_getElem? (i := 25) rfl)) e0 Fl (hb hby d3_1) ?_
  intro T1 X1 e1
  show own_Fin _ _ _ _ _ _ _ (T1.setTop (mkF m 4 #[.val (.ref x0), .val (.long x1), .second, .val (.int x2), .val (.int x3), .unset] [(.int len)]))
  refine own_of (fun _ kk => XS.aloadN X1.here hx rfl (hb hby d3_4) rfl rfl kk) ?_
  show own_Fin _ _ _ _ _ _ _ (T1.setTop (mkF m 5 #[.val (.ref x0), .val (.long x1), .second, .val (.int x2), .val (.int x3), .unset] [(.ref x0), (.int len)]))
  refine own_getF X1 hx hZ hown (hw _ (List.mem_of_getElem? (i := 11) rfl)) e1 Fp (hb hby d3_5) ?_
  intro T2 X2 e2
  show own_Fin _ _ _ _ _ _ _ (T2.setTop (mkF m 8 #[.val (.ref x0), .val (.long x1), .second, .val (.int x2), .val (.int x3), .unset] [(.ref a1), (.int len)]))
  refine own_arraylength X2 hx hZ e2 A1 (z := (16 : Int32)) (by decide) (hb hby d3_8) ?_
  show own_Fin _ _ _ _ _ _ _ (T2.setTop (mkF m 9 #[.val (.ref x0), .val (.long x1), .second, .val (.int x2), .val (.int x3), .unset] [(.int (16 : Int32)), (.int len)]))
  refine own_of (fun _ kk => XS.icmpYes X2.here hx rfl (pc0 := 9) (pc' := 69) rfl (hb hby d3_9) rfl (feq (own_ne16 hl hi)).2 (by decide) (by decide) kk) ?_
  show own_Fin _ _ _ _ _ _ _ (T2.setTop (mkF m 69 #[.val (.ref x0), .val (.long x1), .second, .val (.int x2), .val (.int x3), .unset] []))
  refine own_of (fun _ kk => XS.aloadN X2.here hx rfl (hb hby d3_69) rfl rfl kk) ?_
  show own_Fin _ _ _ _ _ _ _ (T2.setTop (mkF m 70 #[.val (.ref x0), .val (.long x1), .second, .val (.int x2), .val (.int x3), .unset] [(.ref x0)]))
  refine own_getF X2 hx hZ hown (hw _ (List.mem_of_getElem? (i := 11) rfl)) e2 Fp (hb hby d3_70) ?_
  intro T3 X3 e3
  show own_Fin _ _ _ _ _ _ _ (T3.setTop (mkF m 73 #[.val (.ref x0), .val (.long x1), .second, .val (.int x2), .val (.int x3), .unset] [(.ref a1)]))
  refine own_of (fun _ kk => XS.aloadN X3.here hx rfl (hb hby d3_73) rfl rfl kk) ?_
  show own_Fin _ _ _ _ _ _ _ (T3.setTop (mkF m 74 #[.val (.ref x0), .val (.long x1), .second, .val (.int x2), .val (.int x3), .unset] [(.ref x0), (.ref a1)]))
  refine own_getF X3 hx hZ hown (hw _ (List.mem_of_getElem? (i := 25) rfl)) e3 Fl (hb hby d3_74) ?_
  intro T4 X4 e4
  show own_Fin _ _ _ _ _ _ _ (T4.setTop (mkF m 77 #[.val (.ref x0), .val (.long x1), .second, .val (.int x2), .val (.int x3), .unset] [(.int len), (.ref a1)]))
  refine own_of (fun _ kk => XS.lloadN X4.here hx rfl (hb hby d3_77) rfl kk) ?_
  show own_Fin _ _ _ _ _ _ _ (T4.setTop (mkF m 78 #[.val (.ref x0), .val (.long x1), .second, .val (.int x2), .val (.int x3), .unset] [(.long x1), (.int len), (.ref a1)]))
  refine own_lastore X4 hx hZ e4 A1 N0 ga1 (i := i) hl hi (hb hby d3_78) ?_
  intro T5 h5 l5 X5 N5 e5 W5 A5
  replace A5 : own_Arf Z h5 a1 .long 16 (fun j => if j = i then (.long x1) else (fun j => .long (f1 j)) j) := A5
  have ZW5 : n0 ≤ h5.size := by rw [Wr.size W5]; exact Z0
  replace E := E.wr W5
  replace Ff := Ff.other W5 (Or.inl ne1)
  replace Fl := Fl.other W5 (Or.inl ne1)
  replace Fp := Fp.other W5 (Or.inl ne1)
  replace Fs := Fs.other W5 (Or.inl ne1)
  replace Ft := Ft.other W5 (Or.inl ne1)
  replace A2 := A2.other W5 (Ne.symm ne4)
  replace A3 := A3.other W5 (Ne.symm ne5)
  show own_Fin _ _ _ _ _ _ _ (T5.setTop (mkF m 79 #[.val (.ref x0), .val (.long x1), .second, .val (.int x2), .val (.int x3), .unset] []))
  refine own_of (fun _ kk => XS.aloadN X5.here hx rfl (hb hby d3_79) rfl rfl kk) ?_
  show own_Fin _ _ _ _ _ _ _ (T5.setTop (mkF m 80 #[.val (.ref x0), .val (.long x1), .second, .val (.int x2), .val (.int x3), .unset] [(.ref x0)]))
  refine own_getF X5 hx hZ hown (hw _ (List.mem_of_getElem? (i := 14) rfl)) e5 Fs (hb hby d3_80) ?_
  intro T6 X6 e6
  show own_Fin _ _ _ _ _ _ _ (T6.setTop (mkF m 83 #[.val (.ref x0), .val (.long x1), .second, .val (.int x2), .val (.int x3), .unset] [(.ref a2)]))
  refine own_of (fun _ kk => XS.aloadN X6.here hx rfl (hb hby d3_83) rfl rfl kk) ?_
  show own_Fin _ _ _ _ _ _ _ (T6.setTop (mkF m 84 #[.val (.ref x0), .val (.long x1), .second, .val (.int x2), .val (.int x3), .unset] [(.ref x0), (.ref a2)]))
  refine own_getF X6 hx hZ hown (hw _ (List.mem_of_getElem? (i := 25) rfl)) e6 Fl (hb hby d3_84) ?_
  intro T7 X7 e7
  show own_Fin _ _ _ _ _ _ _ (T7.setTop (mkF m 87 #[.val (.ref x0), .val (.long x1), .second, .val (.int x2), .val (.int x3), .unset] [(.int len), (.ref a2)]))
  refine own_of (fun _ kk => XS.iloadN X7.here hx rfl (hb hby d3_87) rfl kk) ?_
  show own_Fin _ _ _ _ _ _ _ (T7.setTop (mkF m 88 #[.val (.ref x0), .val (.long x1), .second, .val (.int x2), .val (.int x3), .unset] [(.int x2), (.int len), (.ref a2)]))
  refine own_iastore X7 hx hZ e7 A2 N5 ga2 (i := i) hl hi (hb hby d3_88) ?_
  intro T8 h8 l8 X8 N8 e8 W8 A8
  replace A8 : own_Arf Z h8 a2 .int 16 (fun j => if j = i then (.int x2) else (fun j => .int (f2 j)) j) := A8
  have ZW8 : n0 ≤ h8.size := by rw [Wr.size W8]; exact ZW5
  replace E := E.wr W8
  replace Ff := Ff.other W8 (Or.inl ne2)
  replace Fl := Fl.other W8 (Or.inl ne2)
  replace Fp := Fp.other W8 (Or.inl ne2)
  replace Fs := Fs.other W8 (Or.inl ne2)
  replace Ft := Ft.other W8 (Or.inl ne2)
  replace A5 := A5.other W8 ne4
  replace A3 := A3.other W8 (Ne.symm ne6)
  show own_Fin _ _ _ _ _ _ _ (T8.setTop (mkF m 89 #[.val (.ref x0), .val (.long x1), .second, .val (.int x2), .val (.int x3), .unset] []))
  refine own_of (fun _ kk => XS.aloadN X8.here hx rfl (hb hby d3_89) rfl rfl kk) ?_
  show own_Fin _ _ _ _ _ _ _ (T8.setTop (mkF m 90 #[.val (.ref x0), .val (.long x1), .second, .val (.int x2), .val (.int x3), .unset] [(.ref x0)]))
  refine own_getF X8 hx hZ hown (hw _ (List.mem_of_getElem? (i := 16) rfl)) e8 Ft (hb hby d3_90) ?_
  intro T9 X9 e9
  show own_Fin _ _ _ _ _ _ _ (T9.setTop (mkF m 93 #[.val (.ref x0), .val (.long x1), .second, .val (.int x2), .val (.int x3), .unset] [(.ref a3)]))
  refine own_of (fun _ kk => XS.aloadN X9.here hx rfl (hb hby d3_93) rfl rfl kk) ?_
  show own_Fin _ _ _ _ _ _ _ (T9.setTop (mkF m 94 #[.val (.ref x0), .val (.long x1), .second, .val (.int x2), .val (.int x3), .unset] [(.ref x0), (.ref a3)]))
  refine own_getF X9 hx hZ hown (hw _ (List.mem_of_getElem? (i := 25) rfl)) e9 Fl (hb hby d3_94) ?_
  intro T10 X10 e10
  show own_Fin _ _ _ _ _ _ _ (T10.setTop (mkF m 97 #[.val (.ref x0), .val (.long x1), .second, .val (.int x2), .val (.int x3), .unset] [(.int len), (.ref a3)]))
  refine own_of (fun _ kk => XS.iload X10.here hx rfl (hb hby d3_97) rfl kk) ?_
  show own_Fin _ _ _ _ _ _ _ (T10.setTop (mkF m 99 #[.val (.ref x0), .val (.long x1), .second, .val (.int x2), .val (.int x3), .unset] [(.int x3), (.int len), (.ref a3)]))
  refine own_iastore X10 hx hZ e10 A3 N8 ga3 (i := i) hl hi (hb hby d3_99) ?_
  intro T11 h11 l11 X11 N11 e11 W11 A11
  replace A11 : own_Arf Z h11 a3 .int 16 (fun j => if j = i then (.int x3) else (fun j => .int (f3 j)) j) := A11
  have ZW11 : n0 ≤ h11.size := by rw [Wr.size W11]; exact ZW8
  replace E := E.wr W11
  replace Ff := Ff.other W11 (Or.inl ne3)
  replace Fl := Fl.other W11 (Or.inl ne3)
  replace Fp := Fp.other W11 (Or.inl ne3)
  replace Fs := Fs.other W11 (Or.inl ne3)
  replace Ft := Ft.other W11 (Or.inl ne3)
  replace A5 := A5.other W11 ne5
  replace A8 := A8.other W11 ne6
  show own_Fin _ _ _ _ _ _ _ (T11.setTop (mkF m 100 #[.val (.ref x0), .val (.long x1), .second, .val (.int x2), .val (.int x3), .unset] []))
  refine own_of (fun _ kk => XS.aloadN X11.here hx rfl (hb hby d3_100) rfl rfl kk) ?_
  show own_Fin _ _ _ _ _ _ _ (T11.setTop (mkF m 101 #[.val (.ref x0), .val (.long x1), .second, .val (.int x2), .val (.int x3), .unset] [(.ref x0)]))
  refine own_of (fun _ kk => XS.dup X11.here hx rfl (hb hby d3_101) rfl rfl kk) ?_
  show own_Fin _ _ _ _ _ _ _ (T11.setTop (mkF m 102 #[.val (.ref x0), .val (.long x1), .second, .val (.int x2), .val (.int x3), .unset] [(.ref x0), (.ref x0)]))
  refine own_getF X11 hx hZ hown (hw _ (List.mem_of_getElem? (i := 25) rfl)) e11 Fl (hb hby d3_102) ?_
  intro T12 X12 e12
  show own_Fin _ _ _ _ _ _ _ (T12.setTop (mkF m 105 #[.val (.ref x0), .val (.long x1), .second, .val (.int x2), .val (.int x3), .unset] [(.int len), (.ref x0)]))
  refine own_of (fun _ kk => XS.iconst X12.here hx rfl (hb hby d3_105) kk) ?_
  show own_Fin _ _ _ _ _ _ _ (T12.setTop (mkF m 106 #[.val (.ref x0), .val (.long x1), .second, .val (.int x2), .val (.int x3), .unset] [(.int (1 : Int32)), (.int len), (.ref x0)]))
  refine own_of (fun _ kk => XS.iadd X12.here hx rfl (hb hby d3_106) rfl kk) ?_
  show own_Fin _ _ _ _ _ _ _ (T12.setTop (mkF m 107 #[.val (.ref x0), .val (.long x1), .second, .val (.int x2), .val (.int x3), .unset] [(.int (len + (1 : Int32))), (.ref x0)]))
  refine own_putF X12 hx hZ hown (hw _ (List.mem_of_getElem? (i := 25) rfl)) e12 Fl E (Or.inl (hw _ (List.mem_of_getElem? (i := 26) rfl))) (hw _ (List.mem_of_getElem? (i := 2) rfl)) (ty := .int) (by decide) rfl rfl N11 go (hb hby d3_107) ?_
  intro T13 h13 l13 X13 N13 e13 W13
  have ZW13 : n0 ≤ h13.size := by rw [Wr.size W13]; exact ZW11
  replace E := E.wr W13
  replace Ff := Ff.other W13 (Or.inr (slot_ne (Or.inr (hw _ (List.mem_of_getElem? (i := 19) rfl))) (Or.inl (hw _ (List.mem_of_getElem? (i := 26) rfl))) (by decide) (t := .long) (t' := .int) (by decide) (by decide)))
  replace Fl := Fl.same W13
  replace Fp := Fp.other W13 (Or.inr (slot_ne (Or.inl (hw _ (List.mem_of_getElem? (i := 12) rfl))) (Or.inl (hw _ (List.mem_of_getElem? (i := 26) rfl))) (by decide) (t := (.array .long)) (t' := .int) (by decide) (by decide)))
  replace Fs := Fs.other W13 (Or.inr (slot_ne (Or.inl (hw _ (List.mem_of_getElem? (i := 15) rfl))) (Or.inl (hw _ (List.mem_of_getElem? (i := 26) rfl))) (by decide) (t := (.array .int)) (t' := .int) (by decide) (by decide)))
  replace Ft := Ft.other W13 (Or.inr (slot_ne (Or.inl (hw _ (List.mem_of_getElem? (i := 17) rfl))) (Or.inl (hw _ (List.mem_of_getElem? (i := 26) rfl))) (by decide) (t := (.array .int)) (t' := .int) (by decide) (by decide)))
  replace A5 := A5.other W13 (Ne.symm ne1)
  replace A8 := A8.other W13 (Ne.symm ne2)
  replace A11 := A11.other W13 (Ne.symm ne3)
  show own_Fin _ _ _ _ _ _ _ (T13.setTop (mkF m 110 #[.val (.ref x0), .val (.long x1), .second, .val (.int x2), .val (.int x3), .unset] []))
  exact own_retV X13 hx hlk e13 hret (hb hby d3_110) (by decide) (by decide) ⟨rfl, N13, ZW13, E, Ff, Fl, Fp, Fs, Ft, (A5.congr fun j _ => by dsimp only; split <;> rfl), (A8.congr fun j _ => by dsimp only; split <;> rfl), (A11.congr fun j _ => by dsimp only; split <;> rfl), ⟨ne1, ne2, ne3, ne4, ne5, ne6⟩, go, ga1, ga2, ga3⟩
set_option maxRecDepth 65536 in
set_option maxHeartbeats 40000000 in
theorem met4 (l : Launch) (Z : State) (a0 : Array Value) (hw : ∀ d ∈ tables_1, d.before a0 Z = true) (x0 : Addr) (x1 : Int64) (first : Int64) (len : Int32) (a1 : Addr) (a2 : Addr) (a3 : Addr) (f1 : Nat → Int64) (f2 : Nat → Int32) (f3 : Nat → Int32) (i : Nat) (r : Int32) (h0 : Heap) (n0 : Nat) (Z0 : n0 ≤ h0.size) (O : own_Obj Z h0 n0 x0 first len a1 a2 a3 f1 f2 f3) (hj : ((x1 - first).toInt32).toInt = i) (hi : i < 16) (hv : f2 i = r) :
    own_Met l Z (⟨"com/example/log_to_queue/logtoqueue/queue/IndexEntries", "recordSize", "(J)I"⟩ : MethodName) prog_63_method_6_code 3 (some .int) { frames := 0, cells := 0, slots := 0, locals := 0 } #[(.ref x0), (.long x1)] h0 (fun v h L => own_Pure (.int r) h0 v h L) := by
  refine own_met pn_4 ?_
  intro p e s m below meth c T0 X0 hx hby hml hown hZ e0 hret hlk hnm
  rw [ef_4 m x0 x1]
  have N0 := Fr.nil n0
  obtain ⟨E, Ff, Fl, Fp, Fs, Ft, A1, A2, A3, ⟨ne1, ne2, ne3, ne4, ne5, ne6⟩, go, ga1, ga2, ga3⟩ := O
  show own_Fin _ _ _ _ _ _ _ (T0.setTop (mkF m 0 #[.val (.ref x0), .val (.long x1), .second] []))
  refine own_of (fun _ kk => XS.aloadN X0.here hx rfl (hb hby d4_0) rfl rfl kk) ?_
  show own_Fin _ _ _ _ _ _ _ (T0.setTop (mkF m 1 #[.val (.ref x0), .val (.long x1), .second] [(.ref x0)]))
  refine own_getF X0 hx hZ hown (hw _ (List.mem_of_getElem? (i := 14) rfl)) e0 Fs (hb hby d4_1) ?_
  intro T1 X1 e1
  show own_Fin _ _ _ _ _ _ _ (T1.setTop (mkF m 4 #[.val (.ref x0), .val (.long x1), .second] [(.ref a2)]))
  refine own_of (fun _ kk => XS.lloadN X1.here hx rfl (hb hby d4_4) rfl kk) ?_
  show own_Fin _ _ _ _ _ _ _ (T1.setTop (mkF m 5 #[.val (.ref x0), .val (.long x1), .second] [(.long x1), (.ref a2)]))
  refine own_of (fun _ kk => XS.aloadN X1.here hx rfl (hb hby d4_5) rfl rfl kk) ?_
  show own_Fin _ _ _ _ _ _ _ (T1.setTop (mkF m 6 #[.val (.ref x0), .val (.long x1), .second] [(.ref x0), (.long x1), (.ref a2)]))
  refine own_getF X1 hx hZ hown (hw _ (List.mem_of_getElem? (i := 18) rfl)) e1 Ff (hb hby d4_6) ?_
  intro T2 X2 e2
  show own_Fin _ _ _ _ _ _ _ (T2.setTop (mkF m 9 #[.val (.ref x0), .val (.long x1), .second] [(.long first), (.long x1), (.ref a2)]))
  refine own_of (fun _ kk => XS.lsub X2.here hx rfl (hb hby d4_9) rfl kk) ?_
  show own_Fin _ _ _ _ _ _ _ (T2.setTop (mkF m 10 #[.val (.ref x0), .val (.long x1), .second] [(.long (x1 - first)), (.ref a2)]))
  refine own_of (fun _ kk => XS.l2i X2.here hx rfl (hb hby d4_10) rfl kk) ?_
  show own_Fin _ _ _ _ _ _ _ (T2.setTop (mkF m 11 #[.val (.ref x0), .val (.long x1), .second] [(.int (x1 - first).toInt32), (.ref a2)]))
  refine own_iaload X2 hx hZ e2 A2 (i := i) hj hi (v := (.int r)) (by rw [hv]) (hb hby d4_11) ?_
  show own_Fin _ _ _ _ _ _ _ (T2.setTop (mkF m 12 #[.val (.ref x0), .val (.long x1), .second] [(.int r)]))
  exact own_retI X2 hx hlk e2 hret (hb hby d4_12) (by decide) (by decide) ⟨rfl, rfl, rfl⟩
theorem own_i0 (x : Int64) : ((x - x).toInt32).toInt = ((0 : Nat) : Int) := by
  have e : x - x = 0 := by have := c_lsub x x; have := rng64 (x - x); exact Int64.toInt_inj.mp (by show (x - x).toInt = 0; omega)
  rw [e]; rfl
theorem own_i1 (x : Int64) : ((x + 1 - x).toInt32).toInt = ((1 : Nat) : Int) := by
  have e : x + 1 - x = 1 := by have := c_lsub (x + 1) x; have := c_ladd x 1; have := rng64 (x + 1 - x); have k : (1 : Int64).toInt = 1 := by decide
                               exact Int64.toInt_inj.mp (by rw [k]; omega)
  rw [e]; rfl
theorem own_i2 (x : Int64) : ((x + 2 - x).toInt32).toInt = ((2 : Nat) : Int) := by
  have e : x + 2 - x = 2 := by have := c_lsub (x + 2) x; have := c_ladd x 2; have := rng64 (x + 2 - x); have k : (2 : Int64).toInt = 2 := by decide
                               exact Int64.toInt_inj.mp (by rw [k]; omega)
  rw [e]; rfl
set_option maxRecDepth 65536 in
set_option maxHeartbeats 40000000 in
theorem own_law (l : Launch) (Z : State) (a0 : Array Value) (hw : ∀ d ∈ tables_1, d.before a0 Z = true) (x0 : Int64) (x1 : Int64) (x2 : Int32) (x3 : Int32) (x4 : Int32) (x5 : Int32) (h0 : Heap) (n0 : Nat) (Z0 : n0 ≤ h0.size) :
    own_Met l Z x code maxLocals ret room_1 #[(.long x0), (.long x1), (.int x2), (.int x3), (.int x4), (.int x5)] h0 (fun v h L => v = some (.int 1) ∧ Fr n0 L) := by
  refine own_met pn_0 ?_
  intro p e s m below meth c T0 X0 hx hby hml hown hZ e0 hret hlk hnm
  replace hown : s.vm.findClass "com/example/log_to_queue/logtoqueue/queue/IndexEntriesRecordSizePinLaw" = some m.cls := hown
  replace hml : c.maxLocals = 9 := hml
  rw [ef_0 m x0 x1 x2 x3 x4 x5]
  have N0 := Fr.nil n0
  show own_Fin _ _ _ _ _ _ _ (T0.setTop (mkF m 0 #[.val (.long x0), .second, .val (.long x1), .second, .val (.int x2), .val (.int x3), .val (.int x4), .val (.int x5), .unset] []))
  refine own_of (fun _ kk => XS.lloadN X0.here hx rfl (hb hby at_0) rfl kk) ?_
  show own_Fin _ _ _ _ _ _ _ (T0.setTop (mkF m 1 #[.val (.long x0), .second, .val (.long x1), .second, .val (.int x2), .val (.int x3), .val (.int x4), .val (.int x5), .unset] [(.long x0)]))
  refine own_of (fun _ kk => X0.ldc2Long hx hown (mvT hZ (hw _ (List.mem_of_getElem? (i := 0) rfl))) (g := (mkF m 1 #[.val (.long x0), .second, .val (.long x1), .second, .val (.int x2), .val (.int x3), .val (.int x4), .val (.int x5), .unset] [(.long x0)])) rfl (hb hby at_1) _ kk) ?_
  show own_Fin _ _ _ _ _ _ _ (T0.setTop (mkF m 4 #[.val (.long x0), .second, .val (.long x1), .second, .val (.int x2), .val (.int x3), .val (.int x4), .val (.int x5), .unset] [(.long (9223372036854775805 : Int64)), (.long x0)]))
  refine own_of (fun _ kk => XS.lcmp X0.here hx rfl (hb hby at_4) rfl kk) ?_
  show own_Fin _ _ _ _ _ _ _ (T0.setTop (mkF m 5 #[.val (.long x0), .second, .val (.long x1), .second, .val (.int x2), .val (.int x3), .val (.int x4), .val (.int x5), .unset] [(.int (lcmpW x0 (9223372036854775805 : Int64)))]))
  by_cases c5 : (9223372036854775805 : Int64) < x0
  · refine own_of (fun _ kk => XS.ifNo X0.here hx rfl (hb hby at_5) rfl ((if0 _ _).trans (tlt ((lw_gt _ _).mpr c5)).2.2.2) kk) ?_
    show own_Fin _ _ _ _ _ _ _ (T0.setTop (mkF m 8 #[.val (.long x0), .second, .val (.long x1), .second, .val (.int x2), .val (.int x3), .val (.int x4), .val (.int x5), .unset] []))
    refine own_of (fun _ kk => XS.iconst X0.here hx rfl (hb hby at_8) kk) ?_
    show own_Fin _ _ _ _ _ _ _ (T0.setTop (mkF m 9 #[.val (.long x0), .second, .val (.long x1), .second, .val (.int x2), .val (.int x3), .val (.int x4), .val (.int x5), .unset] [(.int (1 : Int32))]))
    exact own_retN X0 hx hlk e0 (t := .boolean) hret (by simp) (hb hby at_9) (by decide) (by decide) (z' := (1 : Int32)) (by decide) ⟨rfl, N0⟩
  · refine own_of (fun _ kk => XS.ifYes X0.here hx rfl (pc0 := 5) (pc' := 10) rfl (hb hby at_5) rfl ((if0 _ _).trans (flt (mt (lw_gt _ _).mp c5)).2.2.2) (by decide) (by decide) kk) ?_
    show own_Fin _ _ _ _ _ _ _ (T0.setTop (mkF m 10 #[.val (.long x0), .second, .val (.long x1), .second, .val (.int x2), .val (.int x3), .val (.int x4), .val (.int x5), .unset] []))
    refine own_newO X0 hx hZ hown (hw _ (List.mem_of_getElem? (i := 1) rfl)) (hw _ (List.mem_of_getElem? (i := 2) rfl)) (hw _ (List.mem_of_getElem? (i := 3) rfl)) e0 (hb hby at_10) (by decide) (by decide) ?_
    intro T1 h1 b1 X1 e1 E1 g1 A1 D1
    have Z1 : n0 ≤ h1.size := Nat.le_trans Z0 E1.1
    have ge_b1 : n0 ≤ b1 := by rw [g1]; exact Z0
    have Fb1_positions : Fld Z h1 b1 "com/example/log_to_queue/logtoqueue/queue/IndexEntries" "positions" "[J" .null := D1 (Or.inl (hw _ (List.mem_of_getElem? (i := 12) rfl))) (ty := (.array .long)) (by decide)
    have Fb1_sizes : Fld Z h1 b1 "com/example/log_to_queue/logtoqueue/queue/IndexEntries" "sizes" "[I" .null := D1 (Or.inl (hw _ (List.mem_of_getElem? (i := 15) rfl))) (ty := (.array .int)) (by decide)
    have Fb1_tagFields : Fld Z h1 b1 "com/example/log_to_queue/logtoqueue/queue/IndexEntries" "tagFields" "[I" .null := D1 (Or.inl (hw _ (List.mem_of_getElem? (i := 17) rfl))) (ty := (.array .int)) (by decide)
    have Fb1_first : Fld Z h1 b1 "com/example/log_to_queue/logtoqueue/queue/IndexEntries" "first" "J" (.long (0 : Int64)) := D1 (Or.inr (hw _ (List.mem_of_getElem? (i := 19) rfl))) (ty := .long) (by decide)
    have Fb1_length : Fld Z h1 b1 "com/example/log_to_queue/logtoqueue/queue/IndexEntries" "length" "I" (.int (0 : Int32)) := D1 (Or.inl (hw _ (List.mem_of_getElem? (i := 26) rfl))) (ty := .int) (by decide)
    show own_Fin _ _ _ _ _ _ _ (T1.setTop (mkF m 13 #[.val (.long x0), .second, .val (.long x1), .second, .val (.int x2), .val (.int x3), .val (.int x4), .val (.int x5), .unset] [(.ref b1)]))
    refine own_of (fun _ kk => XS.dup X1.here hx rfl (hb hby at_13) rfl rfl kk) ?_
    show own_Fin _ _ _ _ _ _ _ (T1.setTop (mkF m 14 #[.val (.long x0), .second, .val (.long x1), .second, .val (.int x2), .val (.int x3), .val (.int x4), .val (.int x5), .unset] [(.ref b1), (.ref b1)]))
    refine own_of (fun _ kk => XS.lloadN X1.here hx rfl (hb hby at_14) rfl kk) ?_
    show own_Fin _ _ _ _ _ _ _ (T1.setTop (mkF m 15 #[.val (.long x0), .second, .val (.long x1), .second, .val (.int x2), .val (.int x3), .val (.int x4), .val (.int x5), .unset] [(.long x0), (.ref b1), (.ref b1)]))
    refine own_callC X1 hx hZ (y := (⟨"com/example/log_to_queue/logtoqueue/queue/IndexEntries", "<init>", "(J)V"⟩ : MethodName)) rfl hown (hw _ (List.mem_of_getElem? (i := 4) rfl)) (hw _ (List.mem_of_getElem? (i := 5) rfl)) (hw _ (List.mem_of_getElem? (i := 3) rfl)) (hw _ (List.mem_of_getElem? (i := 6) rfl)) (by decide) e1 (argsL := [(.long x0)]) (met1 l Z a0 hw b1 x0 h1 n0 Z1 A1 Fb1_first Fb1_length Fb1_positions Fb1_sizes Fb1_tagFields ge_b1) (W := 1) (by decide) (by decide) (by decide) (by decide) (by rw [hml]; rfl) pd_2 rfl (rest := [(.ref b1)]) rfl (Nat.le_of_eq rfl) (hb hby at_15) ?_
    intro v2 T2 h2 L2 X2 e2 q2
    obtain ⟨rfl, N2q, Z2, a1, a2, a3, O2⟩ := q2
    have N2 := Fr.app N0 N2q
    show own_Fin _ _ _ _ _ _ _ (T2.setTop (mkF m 18 #[.val (.long x0), .second, .val (.long x1), .second, .val (.int x2), .val (.int x3), .val (.int x4), .val (.int x5), .unset] [(.ref b1)]))
    refine own_of (fun _ kk => XS.astore X2.here hx rfl (hb hby at_18) rfl rfl (l' := #[.val (.long x0), .second, .val (.long x1), .second, .val (.int x2), .val (.int x3), .val (.int x4), .val (.int x5), .val (.ref b1)]) rfl kk) ?_
    show own_Fin _ _ _ _ _ _ _ (T2.setTop (mkF m 20 #[.val (.long x0), .second, .val (.long x1), .second, .val (.int x2), .val (.int x3), .val (.int x4), .val (.int x5), .val (.ref b1)] []))
    refine own_of (fun _ kk => XS.aload X2.here hx rfl (hb hby at_20) rfl rfl kk) ?_
    show own_Fin _ _ _ _ _ _ _ (T2.setTop (mkF m 22 #[.val (.long x0), .second, .val (.long x1), .second, .val (.int x2), .val (.int x3), .val (.int x4), .val (.int x5), .val (.ref b1)] [(.ref b1)]))
    refine own_of (fun _ kk => XS.lloadN X2.here hx rfl (hb hby at_22) rfl kk) ?_
    show own_Fin _ _ _ _ _ _ _ (T2.setTop (mkF m 23 #[.val (.long x0), .second, .val (.long x1), .second, .val (.int x2), .val (.int x3), .val (.int x4), .val (.int x5), .val (.ref b1)] [(.long x1), (.ref b1)]))
    refine own_of (fun _ kk => XS.iload X2.here hx rfl (hb hby at_23) rfl kk) ?_
    show own_Fin _ _ _ _ _ _ _ (T2.setTop (mkF m 25 #[.val (.long x0), .second, .val (.long x1), .second, .val (.int x2), .val (.int x3), .val (.int x4), .val (.int x5), .val (.ref b1)] [(.int x2), (.long x1), (.ref b1)]))
    refine own_of (fun _ kk => XS.iload X2.here hx rfl (hb hby at_25) rfl kk) ?_
    show own_Fin _ _ _ _ _ _ _ (T2.setTop (mkF m 27 #[.val (.long x0), .second, .val (.long x1), .second, .val (.int x2), .val (.int x3), .val (.int x4), .val (.int x5), .val (.ref b1)] [(.int x5), (.int x2), (.long x1), (.ref b1)]))
    refine own_callV X2 hx hZ (y := (⟨"com/example/log_to_queue/logtoqueue/queue/IndexEntries", "add", "(JII)V"⟩ : MethodName)) (z := (⟨"com/example/log_to_queue/logtoqueue/queue/IndexEntries", "add", "(JII)V"⟩ : MethodName)) hown (hw _ (List.mem_of_getElem? (i := 20) rfl)) (hw _ (List.mem_of_getElem? (i := 21) rfl)) (notFace_of_selects (args := #[]) (mvT hZ (hw _ (List.mem_of_getElem? (i := 23) rfl)))) (hw _ (List.mem_of_getElem? (i := 23) rfl)) (hw _ (List.mem_of_getElem? (i := 22) rfl)) (hw _ (List.mem_of_getElem? (i := 3) rfl)) (hw _ (List.mem_of_getElem? (i := 24) rfl)) (by decide) e2 O2.1 (argsL := [(.long x1), (.int x2), (.int x5)]) (met3 l Z a0 hw b1 x1 x2 x5 x0 (0 : Int32) a1 a2 a3 (fun _ => (0 : Int64)) (fun _ => (0 : Int32)) (fun _ => (0 : Int32)) 0 h2 n0 Z2 O2 (by decide) (by decide)) (W := 0) (by decide) (by decide) (by decide) (by decide) (by rw [hml]; rfl) pd_3 rfl (rest := []) rfl (Nat.le_of_eq rfl) (hb hby at_27) ?_
    intro v3 T3 h3 L3 X3 e3 q3
    obtain ⟨rfl, N3q, Z3, O3⟩ := q3
    have N3 := Fr.app N2 N3q
    show own_Fin _ _ _ _ _ _ _ (T3.setTop (mkF m 30 #[.val (.long x0), .second, .val (.long x1), .second, .val (.int x2), .val (.int x3), .val (.int x4), .val (.int x5), .val (.ref b1)] []))
    refine own_of (fun _ kk => XS.aload X3.here hx rfl (hb hby at_30) rfl rfl kk) ?_
    show own_Fin _ _ _ _ _ _ _ (T3.setTop (mkF m 32 #[.val (.long x0), .second, .val (.long x1), .second, .val (.int x2), .val (.int x3), .val (.int x4), .val (.int x5), .val (.ref b1)] [(.ref b1)]))
    refine own_of (fun _ kk => XS.lloadN X3.here hx rfl (hb hby at_32) rfl kk) ?_
    show own_Fin _ _ _ _ _ _ _ (T3.setTop (mkF m 33 #[.val (.long x0), .second, .val (.long x1), .second, .val (.int x2), .val (.int x3), .val (.int x4), .val (.int x5), .val (.ref b1)] [(.long x1), (.ref b1)]))
    refine own_of (fun _ kk => XS.lconst X3.here hx rfl (hb hby at_33) kk) ?_
    show own_Fin _ _ _ _ _ _ _ (T3.setTop (mkF m 34 #[.val (.long x0), .second, .val (.long x1), .second, .val (.int x2), .val (.int x3), .val (.int x4), .val (.int x5), .val (.ref b1)] [(.long (1 : Int64)), (.long x1), (.ref b1)]))
    refine own_of (fun _ kk => XS.ladd X3.here hx rfl (hb hby at_34) rfl kk) ?_
    show own_Fin _ _ _ _ _ _ _ (T3.setTop (mkF m 35 #[.val (.long x0), .second, .val (.long x1), .second, .val (.int x2), .val (.int x3), .val (.int x4), .val (.int x5), .val (.ref b1)] [(.long (x1 + (1 : Int64))), (.ref b1)]))
    refine own_of (fun _ kk => XS.iload X3.here hx rfl (hb hby at_35) rfl kk) ?_
    show own_Fin _ _ _ _ _ _ _ (T3.setTop (mkF m 37 #[.val (.long x0), .second, .val (.long x1), .second, .val (.int x2), .val (.int x3), .val (.int x4), .val (.int x5), .val (.ref b1)] [(.int x3), (.long (x1 + (1 : Int64))), (.ref b1)]))
    refine own_of (fun _ kk => XS.iload X3.here hx rfl (hb hby at_37) rfl kk) ?_
    show own_Fin _ _ _ _ _ _ _ (T3.setTop (mkF m 39 #[.val (.long x0), .second, .val (.long x1), .second, .val (.int x2), .val (.int x3), .val (.int x4), .val (.int x5), .val (.ref b1)] [(.int x5), (.int x3), (.long (x1 + (1 : Int64))), (.ref b1)]))
    refine own_of (fun _ kk => XS.iconst X3.here hx rfl (hb hby at_39) kk) ?_
    show own_Fin _ _ _ _ _ _ _ (T3.setTop (mkF m 40 #[.val (.long x0), .second, .val (.long x1), .second, .val (.int x2), .val (.int x3), .val (.int x4), .val (.int x5), .val (.ref b1)] [(.int (-1 : Int32)), (.int x5), (.int x3), (.long (x1 + (1 : Int64))), (.ref b1)]))
    refine own_of (fun _ kk => XS.ixor X3.here hx rfl (hb hby at_40) rfl kk) ?_
    show own_Fin _ _ _ _ _ _ _ (T3.setTop (mkF m 41 #[.val (.long x0), .second, .val (.long x1), .second, .val (.int x2), .val (.int x3), .val (.int x4), .val (.int x5), .val (.ref b1)] [(.int (x5 ^^^ (-1 : Int32))), (.int x3), (.long (x1 + (1 : Int64))), (.ref b1)]))
    refine own_callV X3 hx hZ (y := (⟨"com/example/log_to_queue/logtoqueue/queue/IndexEntries", "add", "(JII)V"⟩ : MethodName)) (z := (⟨"com/example/log_to_queue/logtoqueue/queue/IndexEntries", "add", "(JII)V"⟩ : MethodName)) hown (hw _ (List.mem_of_getElem? (i := 20) rfl)) (hw _ (List.mem_of_getElem? (i := 21) rfl)) (notFace_of_selects (args := #[]) (mvT hZ (hw _ (List.mem_of_getElem? (i := 23) rfl)))) (hw _ (List.mem_of_getElem? (i := 23) rfl)) (hw _ (List.mem_of_getElem? (i := 22) rfl)) (hw _ (List.mem_of_getElem? (i := 3) rfl)) (hw _ (List.mem_of_getElem? (i := 24) rfl)) (by decide) e3 O3.1 (argsL := [(.long (x1 + (1 : Int64))), (.int x3), (.int (x5 ^^^ (-1 : Int32)))]) (met3 l Z a0 hw b1 (x1 + (1 : Int64)) x3 (x5 ^^^ (-1 : Int32)) x0 ((0 : Int32) + 1) a1 a2 a3 (fun j => if j = 0 then x1 else (fun _ => (0 : Int64)) j) (fun j => if j = 0 then x2 else (fun _ => (0 : Int32)) j) (fun j => if j = 0 then x5 else (fun _ => (0 : Int32)) j) 1 h3 n0 Z3 O3 (by decide) (by decide)) (W := 0) (by decide) (by decide) (by decide) (by decide) (by rw [hml]; rfl) pd_3 rfl (rest := []) rfl (Nat.le_of_eq rfl) (hb hby at_41) ?_
    intro v4 T4 h4 L4 X4 e4 q4
    obtain ⟨rfl, N4q, Z4, O4⟩ := q4
    have N4 := Fr.app N3 N4q
    show own_Fin _ _ _ _ _ _ _ (T4.setTop (mkF m 44 #[.val (.long x0), .second, .val (.long x1), .second, .val (.int x2), .val (.int x3), .val (.int x4), .val (.int x5), .val (.ref b1)] []))
    refine own_of (fun _ kk => XS.aload X4.here hx rfl (hb hby at_44) rfl rfl kk) ?_
    show own_Fin _ _ _ _ _ _ _ (T4.setTop (mkF m 46 #[.val (.long x0), .second, .val (.long x1), .second, .val (.int x2), .val (.int x3), .val (.int x4), .val (.int x5), .val (.ref b1)] [(.ref b1)]))
    refine own_of (fun _ kk => XS.lloadN X4.here hx rfl (hb hby at_46) rfl kk) ?_
    show own_Fin _ _ _ _ _ _ _ (T4.setTop (mkF m 47 #[.val (.long x0), .second, .val (.long x1), .second, .val (.int x2), .val (.int x3), .val (.int x4), .val (.int x5), .val (.ref b1)] [(.long x1), (.ref b1)]))
    refine own_of (fun _ kk => X4.ldc2Long hx hown (mvT hZ (hw _ (List.mem_of_getElem? (i := 27) rfl))) (g := (mkF m 47 #[.val (.long x0), .second, .val (.long x1), .second, .val (.int x2), .val (.int x3), .val (.int x4), .val (.int x5), .val (.ref b1)] [(.long x1), (.ref b1)])) rfl (hb hby at_47) _ kk) ?_
    show own_Fin _ _ _ _ _ _ _ (T4.setTop (mkF m 50 #[.val (.long x0), .second, .val (.long x1), .second, .val (.int x2), .val (.int x3), .val (.int x4), .val (.int x5), .val (.ref b1)] [(.long (2 : Int64)), (.long x1), (.ref b1)]))
    refine own_of (fun _ kk => XS.ladd X4.here hx rfl (hb hby at_50) rfl kk) ?_
    show own_Fin _ _ _ _ _ _ _ (T4.setTop (mkF m 51 #[.val (.long x0), .second, .val (.long x1), .second, .val (.int x2), .val (.int x3), .val (.int x4), .val (.int x5), .val (.ref b1)] [(.long (x1 + (2 : Int64))), (.ref b1)]))
    refine own_of (fun _ kk => XS.iload X4.here hx rfl (hb hby at_51) rfl kk) ?_
    show own_Fin _ _ _ _ _ _ _ (T4.setTop (mkF m 53 #[.val (.long x0), .second, .val (.long x1), .second, .val (.int x2), .val (.int x3), .val (.int x4), .val (.int x5), .val (.ref b1)] [(.int x4), (.long (x1 + (2 : Int64))), (.ref b1)]))
    refine own_of (fun _ kk => XS.iload X4.here hx rfl (hb hby at_53) rfl kk) ?_
    show own_Fin _ _ _ _ _ _ _ (T4.setTop (mkF m 55 #[.val (.long x0), .second, .val (.long x1), .second, .val (.int x2), .val (.int x3), .val (.int x4), .val (.int x5), .val (.ref b1)] [(.int x5), (.int x4), (.long (x1 + (2 : Int64))), (.ref b1)]))
    refine own_of (fun _ kk => X4.ldcInt hx hown (mvT hZ (hw _ (List.mem_of_getElem? (i := 28) rfl))) (g := (mkF m 55 #[.val (.long x0), .second, .val (.long x1), .second, .val (.int x2), .val (.int x3), .val (.int x4), .val (.int x5), .val (.ref b1)] [(.int x5), (.int x4), (.long (x1 + (2 : Int64))), (.ref b1)])) rfl (hb hby at_55) _ kk) ?_
    show own_Fin _ _ _ _ _ _ _ (T4.setTop (mkF m 57 #[.val (.long x0), .second, .val (.long x1), .second, .val (.int x2), .val (.int x3), .val (.int x4), .val (.int x5), .val (.ref b1)] [(.int (1515870810 : Int32)), (.int x5), (.int x4), (.long (x1 + (2 : Int64))), (.ref b1)]))
    refine own_of (fun _ kk => XS.ixor X4.here hx rfl (hb hby at_57) rfl kk) ?_
    show own_Fin _ _ _ _ _ _ _ (T4.setTop (mkF m 58 #[.val (.long x0), .second, .val (.long x1), .second, .val (.int x2), .val (.int x3), .val (.int x4), .val (.int x5), .val (.ref b1)] [(.int (x5 ^^^ (1515870810 : Int32))), (.int x4), (.long (x1 + (2 : Int64))), (.ref b1)]))
    refine own_callV X4 hx hZ (y := (⟨"com/example/log_to_queue/logtoqueue/queue/IndexEntries", "add", "(JII)V"⟩ : MethodName)) (z := (⟨"com/example/log_to_queue/logtoqueue/queue/IndexEntries", "add", "(JII)V"⟩ : MethodName)) hown (hw _ (List.mem_of_getElem? (i := 20) rfl)) (hw _ (List.mem_of_getElem? (i := 21) rfl)) (notFace_of_selects (args := #[]) (mvT hZ (hw _ (List.mem_of_getElem? (i := 23) rfl)))) (hw _ (List.mem_of_getElem? (i := 23) rfl)) (hw _ (List.mem_of_getElem? (i := 22) rfl)) (hw _ (List.mem_of_getElem? (i := 3) rfl)) (hw _ (List.mem_of_getElem? (i := 24) rfl)) (by decide) e4 O4.1 (argsL := [(.long (x1 + (2 : Int64))), (.int x4), (.int (x5 ^^^ (1515870810 : Int32)))]) (met3 l Z a0 hw b1 (x1 + (2 : Int64)) x4 (x5 ^^^ (1515870810 : Int32)) x0 (((0 : Int32) + 1) + 1) a1 a2 a3 (fun j => if j = 1 then (x1 + (1 : Int64)) else (fun j => if j = 0 then x1 else (fun _ => (0 : Int64)) j) j) (fun j => if j = 1 then x3 else (fun j => if j = 0 then x2 else (fun _ => (0 : Int32)) j) j) (fun j => if j = 1 then (x5 ^^^ (-1 : Int32)) else (fun j => if j = 0 then x5 else (fun _ => (0 : Int32)) j) j) 2 h4 n0 Z4 O4 (by decide) (by decide)) (W := 0) (by decide) (by decide) (by decide) (by decide) (by rw [hml]; rfl) pd_3 rfl (rest := []) rfl (Nat.le_of_eq rfl) (hb hby at_58) ?_
    intro v5 T5 h5 L5 X5 e5 q5
    obtain ⟨rfl, N5q, Z5, O5⟩ := q5
    have N5 := Fr.app N4 N5q
    show own_Fin _ _ _ _ _ _ _ (T5.setTop (mkF m 61 #[.val (.long x0), .second, .val (.long x1), .second, .val (.int x2), .val (.int x3), .val (.int x4), .val (.int x5), .val (.ref b1)] []))
    refine own_of (fun _ kk => XS.aload X5.here hx rfl (hb hby at_61) rfl rfl kk) ?_
    show own_Fin _ _ _ _ _ _ _ (T5.setTop (mkF m 63 #[.val (.long x0), .second, .val (.long x1), .second, .val (.int x2), .val (.int x3), .val (.int x4), .val (.int x5), .val (.ref b1)] [(.ref b1)]))
    refine own_of (fun _ kk => XS.lloadN X5.here hx rfl (hb hby at_63) rfl kk) ?_
    show own_Fin _ _ _ _ _ _ _ (T5.setTop (mkF m 64 #[.val (.long x0), .second, .val (.long x1), .second, .val (.int x2), .val (.int x3), .val (.int x4), .val (.int x5), .val (.ref b1)] [(.long x0), (.ref b1)]))
    refine own_callV X5 hx hZ (y := (⟨"com/example/log_to_queue/logtoqueue/queue/IndexEntries", "recordSize", "(J)I"⟩ : MethodName)) (z := (⟨"com/example/log_to_queue/logtoqueue/queue/IndexEntries", "recordSize", "(J)I"⟩ : MethodName)) hown (hw _ (List.mem_of_getElem? (i := 29) rfl)) (hw _ (List.mem_of_getElem? (i := 30) rfl)) (notFace_of_selects (args := #[]) (mvT hZ (hw _ (List.mem_of_getElem? (i := 32) rfl)))) (hw _ (List.mem_of_getElem? (i := 32) rfl)) (hw _ (List.mem_of_getElem? (i := 31) rfl)) (hw _ (List.mem_of_getElem? (i := 3) rfl)) (hw _ (List.mem_of_getElem? (i := 33) rfl)) (by decide) e5 O5.1 (argsL := [(.long x0)]) (met4 l Z a0 hw b1 x0 x0 ((((0 : Int32) + 1) + 1) + 1) a1 a2 a3 (fun j => if j = 2 then (x1 + (2 : Int64)) else (fun j => if j = 1 then (x1 + (1 : Int64)) else (fun j => if j = 0 then x1 else (fun _ => (0 : Int64)) j) j) j) (fun j => if j = 2 then x4 else (fun j => if j = 1 then x3 else (fun j => if j = 0 then x2 else (fun _ => (0 : Int32)) j) j) j) (fun j => if j = 2 then (x5 ^^^ (1515870810 : Int32)) else (fun j => if j = 1 then (x5 ^^^ (-1 : Int32)) else (fun j => if j = 0 then x5 else (fun _ => (0 : Int32)) j) j) j) 0 x2 h5 n0 Z5 O5 (own_i0 x0) (by decide) rfl) (W := 0) (by decide) (by decide) (by decide) (by decide) (by rw [hml]; rfl) pd_1 rfl (rest := []) rfl (Nat.le_of_eq rfl) (hb hby at_64) ?_
    intro v6 T6 h6 L6 X6 e6 q6
    obtain ⟨rfl, qh6, rfl⟩ := q6
    rw [qh6] at e6
    have N6 := Fr.app N5 (Fr.nil n0)
    show own_Fin _ _ _ _ _ _ _ (T6.setTop (mkF m 67 #[.val (.long x0), .second, .val (.long x1), .second, .val (.int x2), .val (.int x3), .val (.int x4), .val (.int x5), .val (.ref b1)] [(.int x2)]))
    refine own_of (fun _ kk => XS.iload X6.here hx rfl (hb hby at_67) rfl kk) ?_
    show own_Fin _ _ _ _ _ _ _ (T6.setTop (mkF m 69 #[.val (.long x0), .second, .val (.long x1), .second, .val (.int x2), .val (.int x3), .val (.int x4), .val (.int x5), .val (.ref b1)] [(.int x2), (.int x2)]))
    refine own_of (fun _ kk => XS.icmpNo X6.here hx rfl (hb hby at_69) rfl (teq rfl).2 kk) ?_
    show own_Fin _ _ _ _ _ _ _ (T6.setTop (mkF m 72 #[.val (.long x0), .second, .val (.long x1), .second, .val (.int x2), .val (.int x3), .val (.int x4), .val (.int x5), .val (.ref b1)] []))
    refine own_of (fun _ kk => XS.aload X6.here hx rfl (hb hby at_72) rfl rfl kk) ?_
    show own_Fin _ _ _ _ _ _ _ (T6.setTop (mkF m 74 #[.val (.long x0), .second, .val (.long x1), .second, .val (.int x2), .val (.int x3), .val (.int x4), .val (.int x5), .val (.ref b1)] [(.ref b1)]))
    refine own_of (fun _ kk => XS.lloadN X6.here hx rfl (hb hby at_74) rfl kk) ?_
    show own_Fin _ _ _ _ _ _ _ (T6.setTop (mkF m 75 #[.val (.long x0), .second, .val (.long x1), .second, .val (.int x2), .val (.int x3), .val (.int x4), .val (.int x5), .val (.ref b1)] [(.long x0), (.ref b1)]))
    refine own_of (fun _ kk => XS.lconst X6.here hx rfl (hb hby at_75) kk) ?_
    show own_Fin _ _ _ _ _ _ _ (T6.setTop (mkF m 76 #[.val (.long x0), .second, .val (.long x1), .second, .val (.int x2), .val (.int x3), .val (.int x4), .val (.int x5), .val (.ref b1)] [(.long (1 : Int64)), (.long x0), (.ref b1)]))
    refine own_of (fun _ kk => XS.ladd X6.here hx rfl (hb hby at_76) rfl kk) ?_
    show own_Fin _ _ _ _ _ _ _ (T6.setTop (mkF m 77 #[.val (.long x0), .second, .val (.long x1), .second, .val (.int x2), .val (.int x3), .val (.int x4), .val (.int x5), .val (.ref b1)] [(.long (x0 + (1 : Int64))), (.ref b1)]))
    refine own_callV X6 hx hZ (y := (⟨"com/example/log_to_queue/logtoqueue/queue/IndexEntries", "recordSize", "(J)I"⟩ : MethodName)) (z := (⟨"com/example/log_to_queue/logtoqueue/queue/IndexEntries", "recordSize", "(J)I"⟩ : MethodName)) hown (hw _ (List.mem_of_getElem? (i := 29) rfl)) (hw _ (List.mem_of_getElem? (i := 30) rfl)) (notFace_of_selects (args := #[]) (mvT hZ (hw _ (List.mem_of_getElem? (i := 32) rfl)))) (hw _ (List.mem_of_getElem? (i := 32) rfl)) (hw _ (List.mem_of_getElem? (i := 31) rfl)) (hw _ (List.mem_of_getElem? (i := 3) rfl)) (hw _ (List.mem_of_getElem? (i := 33) rfl)) (by decide) e6 O5.1 (argsL := [(.long (x0 + (1 : Int64)))]) (met4 l Z a0 hw b1 (x0 + (1 : Int64)) x0 ((((0 : Int32) + 1) + 1) + 1) a1 a2 a3 (fun j => if j = 2 then (x1 + (2 : Int64)) else (fun j => if j = 1 then (x1 + (1 : Int64)) else (fun j => if j = 0 then x1 else (fun _ => (0 : Int64)) j) j) j) (fun j => if j = 2 then x4 else (fun j => if j = 1 then x3 else (fun j => if j = 0 then x2 else (fun _ => (0 : Int32)) j) j) j) (fun j => if j = 2 then (x5 ^^^ (1515870810 : Int32)) else (fun j => if j = 1 then (x5 ^^^ (-1 : Int32)) else (fun j => if j = 0 then x5 else (fun _ => (0 : Int32)) j) j) j) 1 x3 h5 n0 Z5 O5 (own_i1 x0) (by decide) rfl) (W := 0) (by decide) (by decide) (by decide) (by decide) (by rw [hml]; rfl) pd_1 rfl (rest := []) rfl (Nat.le_of_eq rfl) (hb hby at_77) ?_
    intro v7 T7 h7 L7 X7 e7 q7
    obtain ⟨rfl, qh7, rfl⟩ := q7
    rw [qh7] at e7
    have N7 := Fr.app N6 (Fr.nil n0)
    show own_Fin _ _ _ _ _ _ _ (T7.setTop (mkF m 80 #[.val (.long x0), .second, .val (.long x1), .second, .val (.int x2), .val (.int x3), .val (.int x4), .val (.int x5), .val (.ref b1)] [(.int x3)]))
    refine own_of (fun _ kk => XS.iload X7.here hx rfl (hb hby at_80) rfl kk) ?_
    show own_Fin _ _ _ _ _ _ _ (T7.setTop (mkF m 82 #[.val (.long x0), .second, .val (.long x1), .second, .val (.int x2), .val (.int x3), .val (.int x4), .val (.int x5), .val (.ref b1)] [(.int x3), (.int x3)]))
    refine own_of (fun _ kk => XS.icmpNo X7.here hx rfl (hb hby at_82) rfl (teq rfl).2 kk) ?_
    show own_Fin _ _ _ _ _ _ _ (T7.setTop (mkF m 85 #[.val (.long x0), .second, .val (.long x1), .second, .val (.int x2), .val (.int x3), .val (.int x4), .val (.int x5), .val (.ref b1)] []))
    refine own_of (fun _ kk => XS.aload X7.here hx rfl (hb hby at_85) rfl rfl kk) ?_
    show own_Fin _ _ _ _ _ _ _ (T7.setTop (mkF m 87 #[.val (.long x0), .second, .val (.long x1), .second, .val (.int x2), .val (.int x3), .val (.int x4), .val (.int x5), .val (.ref b1)] [(.ref b1)]))
    refine own_of (fun _ kk => XS.lloadN X7.here hx rfl (hb hby at_87) rfl kk) ?_
    show own_Fin _ _ _ _ _ _ _ (T7.setTop (mkF m 88 #[.val (.long x0), .second, .val (.long x1), .second, .val (.int x2), .val (.int x3), .val (.int x4), .val (.int x5), .val (.ref b1)] [(.long x0), (.ref b1)]))
    refine own_of (fun _ kk => X7.ldc2Long hx hown (mvT hZ (hw _ (List.mem_of_getElem? (i := 27) rfl))) (g := (mkF m 88 #[.val (.long x0), .second, .val (.long x1), .second, .val (.int x2), .val (.int x3), .val (.int x4), .val (.int x5), .val (.ref b1)] [(.long x0), (.ref b1)])) rfl (hb hby at_88) _ kk) ?_
    show own_Fin _ _ _ _ _ _ _ (T7.setTop (mkF m 91 #[.val (.long x0), .second, .val (.long x1), .second, .val (.int x2), .val (.int x3), .val (.int x4), .val (.int x5), .val (.ref b1)] [(.long (2 : Int64)), (.long x0), (.ref b1)]))
    refine own_of (fun _ kk => XS.ladd X7.here hx rfl (hb hby at_91) rfl kk) ?_
    show own_Fin _ _ _ _ _ _ _ (T7.setTop (mkF m 92 #[.val (.long x0), .second, .val (.long x1), .second, .val (.int x2), .val (.int x3), .val (.int x4), .val (.int x5), .val (.ref b1)] [(.long (x0 + (2 : Int64))), (.ref b1)]))
    refine own_callV X7 hx hZ (y := (⟨"com/example/log_to_queue/logtoqueue/queue/IndexEntries", "recordSize", "(J)I"⟩ : MethodName)) (z := (⟨"com/example/log_to_queue/logtoqueue/queue/IndexEntries", "recordSize", "(J)I"⟩ : MethodName)) hown (hw _ (List.mem_of_getElem? (i := 29) rfl)) (hw _ (List.mem_of_getElem? (i := 30) rfl)) (notFace_of_selects (args := #[]) (mvT hZ (hw _ (List.mem_of_getElem? (i := 32) rfl)))) (hw _ (List.mem_of_getElem? (i := 32) rfl)) (hw _ (List.mem_of_getElem? (i := 31) rfl)) (hw _ (List.mem_of_getElem? (i := 3) rfl)) (hw _ (List.mem_of_getElem? (i := 33) rfl)) (by decide) e7 O5.1 (argsL := [(.long (x0 + (2 : Int64)))]) (met4 l Z a0 hw b1 (x0 + (2 : Int64)) x0 ((((0 : Int32) + 1) + 1) + 1) a1 a2 a3 (fun j => if j = 2 then (x1 + (2 : Int64)) else (fun j => if j = 1 then (x1 + (1 : Int64)) else (fun j => if j = 0 then x1 else (fun _ => (0 : Int64)) j) j) j) (fun j => if j = 2 then x4 else (fun j => if j = 1 then x3 else (fun j => if j = 0 then x2 else (fun _ => (0 : Int32)) j) j) j) (fun j => if j = 2 then (x5 ^^^ (1515870810 : Int32)) else (fun j => if j = 1 then (x5 ^^^ (-1 : Int32)) else (fun j => if j = 0 then x5 else (fun _ => (0 : Int32)) j) j) j) 2 x4 h5 n0 Z5 O5 (own_i2 x0) (by decide) rfl) (W := 0) (by decide) (by decide) (by decide) (by decide) (by rw [hml]; rfl) pd_1 rfl (rest := []) rfl (Nat.le_of_eq rfl) (hb hby at_92) ?_
    intro v8 T8 h8 L8 X8 e8 q8
    obtain ⟨rfl, qh8, rfl⟩ := q8
    rw [qh8] at e8
    have N8 := Fr.app N7 (Fr.nil n0)
    show own_Fin _ _ _ _ _ _ _ (T8.setTop (mkF m 95 #[.val (.long x0), .second, .val (.long x1), .second, .val (.int x2), .val (.int x3), .val (.int x4), .val (.int x5), .val (.ref b1)] [(.int x4)]))
    refine own_of (fun _ kk => XS.iload X8.here hx rfl (hb hby at_95) rfl kk) ?_
    show own_Fin _ _ _ _ _ _ _ (T8.setTop (mkF m 97 #[.val (.long x0), .second, .val (.long x1), .second, .val (.int x2), .val (.int x3), .val (.int x4), .val (.int x5), .val (.ref b1)] [(.int x4), (.int x4)]))
    refine own_of (fun _ kk => XS.icmpNo X8.here hx rfl (hb hby at_97) rfl (teq rfl).2 kk) ?_
    show own_Fin _ _ _ _ _ _ _ (T8.setTop (mkF m 100 #[.val (.long x0), .second, .val (.long x1), .second, .val (.int x2), .val (.int x3), .val (.int x4), .val (.int x5), .val (.ref b1)] []))
    refine own_of (fun _ kk => XS.iconst X8.here hx rfl (hb hby at_100) kk) ?_
    show own_Fin _ _ _ _ _ _ _ (T8.setTop (mkF m 101 #[.val (.long x0), .second, .val (.long x1), .second, .val (.int x2), .val (.int x3), .val (.int x4), .val (.int x5), .val (.ref b1)] [(.int (1 : Int32))]))
    refine own_of (fun _ kk => XS.goto X8.here hx rfl (pc0 := 101) (pc' := 105) rfl (hb hby at_101) (by decide) (by decide) kk) ?_
    show own_Fin _ _ _ _ _ _ _ (T8.setTop (mkF m 105 #[.val (.long x0), .second, .val (.long x1), .second, .val (.int x2), .val (.int x3), .val (.int x4), .val (.int x5), .val (.ref b1)] [(.int (1 : Int32))]))
    exact own_retN X8 hx hlk e8 (t := .boolean) hret (by simp) (hb hby at_105) (by decide) (by decide) (z' := (1 : Int32)) (by decide) ⟨rfl, N8⟩
set_option maxRecDepth 65536 in
set_option maxHeartbeats 40000000 in
theorem comes_1 {Post : Tables → Env → Array Value → State → Outcome → State → Prop} (hpost : ∀ tb e args s v u, (limb_1_1.after args s (.returned v) u = true ∧ limb_1_2.after args s (.returned v) u = true ∧ True) → FrameEnd s (.returned v) u (Jvm.fieldLocs frame_1_writes args s ++ Jvm.arrayLocs frame_1_arrays args s ++ Jvm.staticLocs frame_1_statics s) 16 192 → Post tb e args s (.returned v) u) :
    ArmFor flags0 classFile x code maxLocals ret World_1 tables_1 room_1 Calls_1 rest_1 Pre_1 Post := by
  intro l hfl _ _ p e ha hc hk s m args below hf hA hF happ hP
  obtain ⟨hcalls, hrest, hpre⟩ := hP
  obtain ⟨-, -, -, hnamed, -, -, -, hat⟩ := (Spec.applies_iff hf).mp happ
  obtain ⟨hg, hn⟩ := and_e (Cond.before_iff.mp (show (Jvm.Cond.and given_1 narrow_1).before args s = true from hpre))
  obtain ⟨g1, g2⟩ := and_e hg
  obtain ⟨g3, g4⟩ := and_e g2
  obtain ⟨g5, g6⟩ := and_e g4
  obtain ⟨g7, g8⟩ := and_e g6
  obtain ⟨g9, g10⟩ := and_e g8
  obtain ⟨g11, g12⟩ := and_e g10
  obtain ⟨w0, w1, w2, w3, w4, w5, rfl⟩ : ∃ w0 w1 w2 w3 w4 w5 : Value, args = #[w0, w1, w2, w3, w4, w5] := by
    have hs : args.size = 6 := by simpa [Cond.value, given_1] using g1
    obtain ⟨L⟩ := args
    match L, hs with
    | [w0, w1, w2, w3, w4, w5], _ => exact ⟨w0, w1, w2, w3, w4, w5, rfl⟩
  have hw := fun d (hd : d ∈ tables_1) => atoms_spec (ws := Jvm.Cond.code x code maxLocals ret :: tables_1) hat d (List.mem_cons_of_mem _ hd)
  obtain ⟨i0, ei0⟩ := isL_v g3
  obtain rfl : w0 = (.long i0) := Option.some.inj ei0
  obtain ⟨i1, ei1⟩ := isL_v g5
  obtain rfl : w1 = (.long i1) := Option.some.inj ei1
  obtain ⟨i2, ei2⟩ := is_v g7
  obtain rfl : w2 = (.int i2) := Option.some.inj ei2
  obtain ⟨i3, ei3⟩ := is_v g9
  obtain rfl : w3 = (.int i3) := Option.some.inj ei3
  obtain ⟨i4, ei4⟩ := is_v g11
  obtain rfl : w4 = (.int i4) := Option.some.inj ei4
  obtain ⟨i5, ei5⟩ := is_v g12
  obtain rfl : w5 = (.int i5) := Option.some.inj ei5
  obtain ⟨n, o, h1, h2, h3, _, L, rfl, ⟨rfl, N⟩, hq⟩ := own_law l s _ hw i0 i1 i2 i3 i4 i5 s.heap s.heap.size (Nat.le_refl _) tables_1 p e ha hc hk s m _ below hf ((Spec.applies_iff_loose hf).mp happ).1 ⟨rfl, State.Warmed39.refl s, rfl⟩ trivial
  refine ⟨n, _, h1, h2, h3, hpost _ _ _ _ _ _ ⟨Cond.after_iff.mpr rfl, Cond.after_iff.mpr (eq_i res_at (Term.int_eval (1)) rfl), trivial⟩ ⟨hq.1, hq.2.1, (hq.2.2.sift fun y hy => Or.inr (N y hy)).mono (by decide) (by decide)⟩⟩
theorem main_1_1 : Claimed_1_1 := comes_1 fun _ _ _ _ _ _ h hF => ⟨h.1, hF⟩
theorem main_1_2 : Claimed_1_2 := comes_1 fun _ _ _ _ _ _ h hF => ⟨h.2.1, hF⟩
end Jvm.Pilot.@@N@@
namespace Jvm.Pilot.@@N@@
open Jvm Jvm.ClassFile Sem Op Lib Jvm.Free Jvm.Stand Jvm.Pilot.@@N@@.Jvm.D
/-! MADE BY PROGRAM (witnessworld.py) out of the Statement's table words and the real class files: 11 classes; the members and pool entries that the words name. The judged class is class 1, her method 1. -/
namespace start1
open Jvm.ClassFile
def u (s : String) : CpInfo := .utf8 (stringToUtf16 s)
/-- a pool by its gaps: so many unusable entries, then the entry; so many at the end -/
def gap : Nat → List CpInfo → List CpInfo
  | 0, r => r
  | n + 1, r => .unusable :: gap n r
def poolList (es : List (Nat × CpInfo)) (last : Nat) : List CpInfo := es.foldr (fun e r => gap e.1 (e.2 :: r)) (gap last [])
def pool (es : List (Nat × CpInfo)) (last : Nat) : Array CpInfo := ⟨poolList es last⟩
def fileOf (pool : Array CpInfo) (this : Nat) (attrs : Array Attribute := #[]) (ms : Array MethodInfo := #[]) (fl : Nat := 33) (sup : Nat := 0) (ifs : Array Nat := #[]) (fds : Array FieldInfo := #[]) : ClassFile where
  minorVersion := 0
  majorVersion := 65
  constantPool := pool
  accessFlags := fl
  thisClass := this
  superClass := sup
  interfaces := ifs
  fields := fds
  methods := ms
  attributes := attrs
def plain (name : String) (sup : Option ClassId) : Class where
  name := name
  kind := .ordinary
  loader := none
  accessFlags := 33
  super := sup
  interfaces := #[]
  cf := none
  fields := #[]
  methods := #[]
  instanceTypes := #[]
  staticTypes := #[]
  resolved := #[]
  callSites := []
  init := .initialized
  statics := none
  mirror := none

def pool0 : Array CpInfo := pool [(5, u "<init>"), (0, u "()V"), (1, .class_ 10), (1, u "java/lang/Object")] 113

def k0c0 : Code := { maxStack := 0, maxLocals := 1, code := object_method_1_code, exceptionTable := #[], attributes := #[] }
def k0m0 : Method := { name := "<init>", desc := "()V", sig := { parameters := [], returnType := none }, accessFlags := 1, code := some k0c0 }
/-- java/lang/Object -/
def k0 : Class := { plain "java/lang/Object" none with
  accessFlags := 33
  interfaces := #[]
  cf := some (fileOf pool0 8 #[] #[{ accessFlags := 1, nameIndex := 5, descriptorIndex := 6, attributes := #[] }] 33 0 #[] #[])
  fields := #[]
  methods := #[k0m0]
  instanceTypes := #[]
  staticTypes := #[]
  resolved := Array.replicate 124 none
  statics := none }

def pool1 : Array CpInfo := pool [(2, .class_ 4), (1, u "java/lang/Object"), (0, u "<init>"), (0, u "()V"), (2, .long 9223372036854775805), (1, .class_ 12), (0, u "com/example/log_to_queue/logtoqueue/queue/IndexEntries"), (0, .methodref 11 14), (0, .nameAndType 5 15), (0, u "(J)V"), (0, .methodref 11 17), (0, .nameAndType 18 19), (0, u "add"), (0, u "(JII)V"), (0, .long 2), (1, .integer 1515870810), (0, .methodref 11 24), (0, .nameAndType 25 26), (0, u "recordSize"), (0, u "(J)I"), (0, .class_ 28), (0, u "com/example/log_to_queue/logtoqueue/queue/IndexEntriesRecordSizePinLaw"), (2, u "law"), (0, u "(JJIIII)Z")] 3

def k1m0 : Method := { name := "<init>", desc := "()V", sig := { parameters := [], returnType := none }, accessFlags := 1, code := none }
def k1c1 : Code := { maxStack := 6, maxLocals := 9, code := code, exceptionTable := #[], attributes := #[] }
def k1m1 : Method := { name := "law", desc := "(JJIIII)Z", sig := { parameters := [.long, .long, .int, .int, .int, .int], returnType := some .boolean }, accessFlags := 9, code := some k1c1 }
/-- com/example/log_to_queue/logtoqueue/queue/IndexEntriesRecordSizePinLaw -/
def k1 : Class := { plain "com/example/log_to_queue/logtoqueue/queue/IndexEntriesRecordSizePinLaw" (some 0) with
  accessFlags := 49
  interfaces := #[]
  cf := some (fileOf pool1 27 #[] #[{ accessFlags := 1, nameIndex := 5, descriptorIndex := 6, attributes := #[] }, { accessFlags := 9, nameIndex := 31, descriptorIndex := 32, attributes := #[] }] 49 2 #[] #[])
  fields := #[]
  methods := #[k1m0, k1m1]
  instanceTypes := #[]
  staticTypes := #[]
  resolved := Array.replicate 36 none
  statics := none }

def pool2 : Array CpInfo := pool [(1, .methodref 2 3), (0, .class_ 4), (0, .nameAndType 5 6), (0, u "java/lang/Object"), (0, u "<init>"), (0, u "()V"), (0, .class_ 8), (0, u "com/example/log_to_queue/logtoqueue/queue/IndexEntries"), (0, .fieldref 7 10), (0, .nameAndType 11 12), (0, u "positions"), (0, u "[J"), (0, .fieldref 7 14), (0, .nameAndType 15 16), (0, u "sizes"), (0, u "[I"), (0, .fieldref 7 18), (0, .nameAndType 19 16), (0, u "tagFields"), (0, .fieldref 7 21), (0, .nameAndType 22 23), (0, u "first"), (0, u "J"), (8, u "add"), (0, u "(JII)V"), (0, .fieldref 7 35), (0, .nameAndType 36 37), (0, u "length"), (0, u "I"), (0, .long 2), (3, .long 2147483647), (16, u "FIRST_CAPACITY"), (2, u "(J)V"), (8, u "recordSize"), (0, u "(J)I")] 3

def k2c0 : Code := { maxStack := 3, maxLocals := 3, code := prog_63_method_1_code, exceptionTable := #[], attributes := #[] }
def k2m0 : Method := { name := "<init>", desc := "(J)V", sig := { parameters := [.long], returnType := none }, accessFlags := 0, code := some k2c0 }
def k2c1 : Code := { maxStack := 4, maxLocals := 6, code := prog_63_method_3_code, exceptionTable := #[], attributes := #[] }
def k2m1 : Method := { name := "add", desc := "(JII)V", sig := { parameters := [.long, .int, .int], returnType := none }, accessFlags := 0, code := some k2c1 }
def k2c2 : Code := { maxStack := 5, maxLocals := 3, code := prog_63_method_6_code, exceptionTable := #[], attributes := #[] }
def k2m2 : Method := { name := "recordSize", desc := "(J)I", sig := { parameters := [.long], returnType := some .int }, accessFlags := 0, code := some k2c2 }
/-- com/example/log_to_queue/logtoqueue/queue/IndexEntries -/
def k2 : Class := { plain "com/example/log_to_queue/logtoqueue/queue/IndexEntries" (some 0) with
  accessFlags := 32
  interfaces := #[]
  cf := some (fileOf pool2 7 #[] #[{ accessFlags := 0, nameIndex := 5, descriptorIndex := 62, attributes := #[] }, { accessFlags := 0, nameIndex := 32, descriptorIndex := 33, attributes := #[] }, { accessFlags := 0, nameIndex := 71, descriptorIndex := 72, attributes := #[] }] 32 2 #[] #[{ accessFlags := 26, nameIndex := 59, descriptorIndex := 37, attributes := #[] }, { accessFlags := 18, nameIndex := 22, descriptorIndex := 23, attributes := #[] }, { accessFlags := 2, nameIndex := 11, descriptorIndex := 12, attributes := #[] }, { accessFlags := 2, nameIndex := 15, descriptorIndex := 16, attributes := #[] }, { accessFlags := 2, nameIndex := 19, descriptorIndex := 16, attributes := #[] }, { accessFlags := 2, nameIndex := 36, descriptorIndex := 37, attributes := #[] }])
  fields := #[{ name := "FIRST_CAPACITY", type := .int, accessFlags := 26, slot := 0, constantValue := 0 }, { name := "first", type := .long, accessFlags := 18, slot := 0, constantValue := 0 }, { name := "positions", type := (.array .long), accessFlags := 2, slot := 1, constantValue := 0 }, { name := "sizes", type := (.array .int), accessFlags := 2, slot := 2, constantValue := 0 }, { name := "tagFields", type := (.array .int), accessFlags := 2, slot := 3, constantValue := 0 }, { name := "length", type := .int, accessFlags := 2, slot := 4, constantValue := 0 }]
  methods := #[k2m0, k2m1, k2m2]
  instanceTypes := #[.long, (.array .long), (.array .int), (.array .int), .int]
  staticTypes := #[.int]
  resolved := Array.replicate 76 none
  statics := none }

def pool3 : Array CpInfo := pool [(1, u "java/lang/Cloneable"), (0, .class_ 1), (0, u "java/lang/Object"), (0, .class_ 3)] 3

/-- java/lang/Cloneable -/
def k3 : Class := { plain "java/lang/Cloneable" (some 0) with
  accessFlags := 1537
  interfaces := #[]
  cf := some (fileOf pool3 2 #[] #[] 1537 4 #[] #[])
  fields := #[]
  methods := #[]
  instanceTypes := #[]
  staticTypes := #[]
  resolved := Array.replicate 8 none
  statics := none }

def pool4 : Array CpInfo := pool [(1, u "java/io/Serializable"), (0, .class_ 1), (0, u "java/lang/Object"), (0, .class_ 3)] 3

/-- java/io/Serializable -/
def k4 : Class := { plain "java/io/Serializable" (some 0) with
  accessFlags := 1537
  interfaces := #[]
  cf := some (fileOf pool4 2 #[] #[] 1537 4 #[] #[])
  fields := #[]
  methods := #[]
  instanceTypes := #[]
  staticTypes := #[]
  resolved := Array.replicate 8 none
  statics := none }

/-- the primitive byte -/
def k5 : Class := { plain "byte" none with kind := .primitive 'B', accessFlags := 0x411 }
/-- [B -/
def k6 : Class := { plain "[B" (some 0) with kind := .array 5 .byte, interfaces := #[3, 4], accessFlags := 1041 }

/-- the primitive int -/
def k7 : Class := { plain "int" none with kind := .primitive 'I', accessFlags := 0x411 }
/-- [I -/
def k8 : Class := { plain "[I" (some 0) with kind := .array 7 .int, interfaces := #[3, 4], accessFlags := 1041 }

/-- the primitive long -/
def k9 : Class := { plain "long" none with kind := .primitive 'J', accessFlags := 0x411 }
/-- [J -/
def k10 : Class := { plain "[J" (some 0) with kind := .array 9 .long, interfaces := #[3, 4], accessFlags := 1041 }

def heap : Heap := #[]
def classes : Array Class := #[k0, k1, k2, k3, k4, k5, k6, k7, k8, k9, k10]
def interned : List (Array UInt16 × Addr) := []
def slotsUsed : Nat := 0
def theMethod : MethodId := ⟨1, 1⟩
def args0 : Array Value := #[.long 5, .long 7, .int 1, .int 2, .int 3, .int 4]
def aboutOver (below : List Frame) : State where
  vm := { classes := classes, interned := interned.toArray }
  heap := heap
  slotsUsed := slotsUsed
  threads := #[{ frames := .invoking theMethod args0 :: below }]
def below0 : List Frame := [.native { method := ⟨0, 0⟩, args := #[] }]
def about1 : State := aboutOver below0
def p0 : Program := .bare "" "" ""
def e0 : Env := launch0.env 0 0 0
theorem w_frames : about1.frames = Frame.invoking theMethod args0 :: below0 := rfl
set_option maxRecDepth 65536 in
theorem w_args : argsFit about1.vm theMethod args0 = true := by decide +kernel
set_option maxRecDepth 65536 in
theorem w_heap : heapFits about1 = true := by decide +kernel
set_option maxRecDepth 65536 in
theorem w_runnable : about1.curStatus? = some .runnable := by decide +kernel
set_option maxRecDepth 65536 in
theorem w_alone : about1.alone = true := by decide +kernel
set_option maxRecDepth 65536 in
theorem w_named : about1.methodNamed? x = some theMethod := by decide +kernel
set_option maxRecDepth 65536 in
theorem w_hears : about1.hears theMethod below0 = true := by decide +kernel
set_option maxRecDepth 65536 in
theorem w_ripe : about1.ripe theMethod args0 below0 = true := by decide +kernel
theorem w_running : about1.status = .running := rfl
set_option maxRecDepth 65536 in
theorem w_room : about1.hasRoom e0.platform room_1 = true :=
  launch0.hasRoom_least _ room_1 (by decide +kernel) (by decide +kernel) (by decide +kernel) (by decide +kernel) (by decide +kernel) (by decide +kernel)
theorem allAtoms_all (ts : List Jvm.Cond) (a : Array Jvm.Value) (st : Jvm.State) : (allAtoms ts).before a st = ts.all (fun c => c.before a st) := by
  induction ts with
  | nil => rfl
  | cons c t ih =>
    show (Jvm.Cond.and c (allAtoms t)).before a st = _
    rw [Jvm.Cond.before_and, ih, List.all_cons]
def words1 : List Jvm.Cond := Jvm.Cond.code x code maxLocals ret :: tables_1
/-- a 'code' word, met by the world's own term for the bytes: nothing is compared byte by byte -/
theorem code_word {y : MethodName} {bytes : ByteArray} {mx : Nat} {rt : Option FieldType} {a : Array Value} {s : State} {m : MethodId} {meth : Method} {c : Code} (h1 : s.methodNamed? y = some m) (h2 : s.vm.method? m = some meth) (h3 : meth.code = some c) (h4 : c.code = bytes)
    (h5 : (c.maxLocals == mx && c.exceptionTable.isEmpty && decide (c.maxStack ≤ mostOperands) && decide (meth.sig.returnType = rt) && !meth.locks && decide (parseMethodDescriptor y.desc = some meth.sig)) = true) : (Jvm.Cond.code y bytes mx rt).before a s = true := by
  simp only [Bool.and_eq_true, beq_iff_eq, Bool.not_eq_true', decide_eq_true_eq] at h5
  obtain ⟨⟨⟨⟨⟨g1, g2⟩, g3⟩, g4⟩, g5⟩, g6⟩ := h5
  simp [Cond.before, Cond.holds, Cond.value, h1, h2, h3, h4, g1, g2, g3, g4, g5, g6]
def isCode : Jvm.Cond → Bool
  | .code _ _ _ _ => true
  | _ => false
theorem all_split {L : List Jvm.Cond} {P : Jvm.Cond → Bool} (h1 : L.all (fun c => isCode c || P c) = true) (h2 : ∀ c ∈ L.filter isCode, P c = true) : L.all P = true := by
  refine List.all_eq_true.mpr fun c hc => ?_
  have h := List.all_eq_true.mp h1 c hc
  rcases Bool.eq_false_or_eq_true (isCode c) with hi | hi
  · exact h2 c (List.mem_filter.mpr ⟨hc, hi⟩)
  · simpa [hi] using h
set_option maxRecDepth 65536 in
theorem w_c0 : (Jvm.Cond.code x code maxLocals ret).before args0 about1 = true := code_word (m := ⟨1, 1⟩) (meth := k1m1) (c := k1c1) (by decide +kernel) rfl rfl rfl (by decide +kernel)
set_option maxRecDepth 65536 in
theorem w_c1 : (Jvm.Cond.code ({ cls := "com/example/log_to_queue/logtoqueue/queue/IndexEntries", name := "<init>", desc := "(J)V" } : Jvm.MethodName) prog_63_method_1_code (3 : Nat) (Option.none : Option Jvm.ClassFile.FieldType)).before args0 about1 = true := code_word (m := ⟨2, 0⟩) (meth := k2m0) (c := k2c0) (by decide +kernel) rfl rfl rfl (by decide +kernel)
set_option maxRecDepth 65536 in
theorem w_c2 : (Jvm.Cond.code ({ cls := "java/lang/Object", name := "<init>", desc := "()V" } : Jvm.MethodName) object_method_1_code (1 : Nat) (Option.none : Option Jvm.ClassFile.FieldType)).before args0 about1 = true := code_word (m := ⟨0, 0⟩) (meth := k0m0) (c := k0c0) (by decide +kernel) rfl rfl rfl (by decide +kernel)
set_option maxRecDepth 65536 in
theorem w_c3 : (Jvm.Cond.code ({ cls := "com/example/log_to_queue/logtoqueue/queue/IndexEntries", name := "add", desc := "(JII)V" } : Jvm.MethodName) prog_63_method_3_code (6 : Nat) (Option.none : Option Jvm.ClassFile.FieldType)).before args0 about1 = true := code_word (m := ⟨2, 1⟩) (meth := k2m1) (c := k2c1) (by decide +kernel) rfl rfl rfl (by decide +kernel)
set_option maxRecDepth 65536 in
theorem w_c4 : (Jvm.Cond.code ({ cls := "com/example/log_to_queue/logtoqueue/queue/IndexEntries", name := "recordSize", desc := "(J)I" } : Jvm.MethodName) prog_63_method_6_code (3 : Nat) (Option.some Jvm.ClassFile.FieldType.int)).before args0 about1 = true := code_word (m := ⟨2, 2⟩) (meth := k2m2) (c := k2c2) (by decide +kernel) rfl rfl rfl (by decide +kernel)
def codes1 : List Jvm.Cond := [Jvm.Cond.code x code maxLocals ret, Jvm.Cond.code ({ cls := "com/example/log_to_queue/logtoqueue/queue/IndexEntries", name := "<init>", desc := "(J)V" } : Jvm.MethodName) prog_63_method_1_code (3 : Nat) (Option.none : Option Jvm.ClassFile.FieldType), Jvm.Cond.code ({ cls := "java/lang/Object", name := "<init>", desc := "()V" } : Jvm.MethodName) object_method_1_code (1 : Nat) (Option.none : Option Jvm.ClassFile.FieldType), Jvm.Cond.code ({ cls := "com/example/log_to_queue/logtoqueue/queue/IndexEntries", name := "add", desc := "(JII)V" } : Jvm.MethodName) prog_63_method_3_code (6 : Nat) (Option.none : Option Jvm.ClassFile.FieldType), Jvm.Cond.code ({ cls := "com/example/log_to_queue/logtoqueue/queue/IndexEntries", name := "recordSize", desc := "(J)I" } : Jvm.MethodName) prog_63_method_6_code (3 : Nat) (Option.some Jvm.ClassFile.FieldType.int)]
set_option maxRecDepth 65536 in
theorem codes_eq : words1.filter isCode = codes1 := rfl
theorem w_codes : ∀ c ∈ words1.filter isCode, c.before args0 about1 = true := by
  rw [codes_eq]
  intro c hc
  simp only [codes1, List.mem_cons, List.not_mem_nil, or_false] at hc
  rcases hc with rfl | rfl | rfl | rfl | rfl
  · exact w_c0
  · exact w_c1
  · exact w_c2
  · exact w_c3
  · exact w_c4
set_option maxRecDepth 65536 in
theorem w_t1 : (words1.take 24).all (fun c => isCode c || c.before args0 about1) = true := by decide +kernel
set_option maxRecDepth 65536 in
theorem w_t2 : (words1.drop 24).all (fun c => isCode c || c.before args0 about1) = true := by decide +kernel
theorem w_tables : (allAtoms (Jvm.Cond.code x code maxLocals ret :: tables_1)).before args0 about1 = true := by
  rw [allAtoms_all]
  show words1.all (fun c => c.before args0 about1) = true
  refine all_split ?_ w_codes
  rw [← List.take_append_drop 24 words1, List.all_append, w_t1, w_t2]
  rfl
set_option maxRecDepth 65536 in
theorem w_case : (Jvm.Cond.and given_1 narrow_1).before args0 about1 = true := by decide +kernel
theorem w_applies : (headSpec (Jvm.Cond.code x code maxLocals ret :: tables_1) room_1).applies x e0.platform about1 = true :=
  (Spec.applies_iff w_frames).mpr ⟨w_running, w_runnable, w_alone, w_named, w_hears, w_ripe, w_room, w_tables⟩
theorem atStart : AtStart classFile x code maxLocals ret World_1 tables_1 room_1 Calls_1 rest_1 Pre_1 launch0 p0 e0 about1 theMethod args0 below0 :=
  ⟨lists_1, trivial, launch0.admits_env _ _ _, launch0.least_env, fairChoices_fair.cas, fairChoices_fair.clock, w_frames, w_args, w_heap, w_applies, trivial, trivial, w_case⟩
end start1
theorem witness_1 : WitnessClaimed_1 := ⟨start1.p0, start1.e0, start1.about1, start1.theMethod, start1.args0, start1.below0, start1.atStart⟩
end Jvm.Pilot.@@N@@
