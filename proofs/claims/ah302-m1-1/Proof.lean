import JvmDerived
import JvmDerived.Pilot.@@N@@Statement
import JvmDerived.Pilot.@@N@@Code
set_option linter.unusedVariables false
set_option linter.unusedSimpArgs false
namespace Jvm.RoadKit
open Sem ClassFile Op Lib Jvm.Stand Jvm.Free Jvm.LawKit
section OwnKit
variable {p : Program} {l : Launch} {e : Env} {R : Room} {s : State} {m : MethodId} {args : Array Value} {below : List Frame} {meth : Method} {c : Code} {T : State} {locs : List Loc} {cells slots : Nat} {Z : State} {a0 : Array Value} {h h' : Heap} {a b : Addr}
variable {C N : Nat} {Q : Option Value → Heap → List Loc → Prop} {pc : Nat} {Ls : Array Slot} {rest : List Value}
/-- from the state A the invocation returns, with what Q says of the value, the heap and the places written -/
def own_Fin (p : Program) (e : Env) (below : List Frame) (s : State) (C N : Nat) (Q : Option Value → Heap → List Loc → Prop) (A : State) : Prop :=
  ∃ s₂ o, Steps p.tables e below A s₂ ∧ s₂.status = .running ∧ Ended s₂ below o ∧ ∃ v L, o = .returned v ∧ Q v s₂.heap L ∧ FrameEnd s o s₂ L C N
theorem own_of {A B : State} (st : ∀ t, Steps p.tables e below B t → Steps p.tables e below A t) (k : own_Fin p e below s C N Q B) : own_Fin p e below s C N Q A := by
  obtain ⟨s₂, o, h1, h2⟩ := k
  exact ⟨s₂, o, st _ h1, h2⟩
theorem own_mono {Q' : Option Value → Heap → List Loc → Prop} {A : State} (hq : ∀ v h L, Q v h L → Q' v h L) (k : own_Fin p e below s C N Q A) : own_Fin p e below s C N Q' A := by
  obtain ⟨s₂, o, h1, h2, h3, v, L, h4, h5, h6⟩ := k
  exact ⟨s₂, o, h1, h2, h3, v, L, h4, hq _ _ _ h5, h6⟩
/-- a body's contract: called with as' over the heap h0 it returns, and Q holds -/
def own_Met (l : Launch) (Z : State) (y : MethodName) (bytes : ByteArray) (maxL : Nat) (ret : Option FieldType) (rm : Room) (as' : Array Value) (h0 : Heap) (Q : Option Value → Heap → List Loc → Prop) : Prop :=
  ∀ ws : List Cond, MetFree l y (head1 (Cond.code y bytes maxL ret :: ws) rm) (fun a U => a = as' ∧ Z.Warmed39 U.vm ∧ U.heap = h0) (fun _ _ _ _ _ => True) (fun _ U o U' => ∃ v L, o = .returned v ∧ Q v U'.heap L ∧ FrameEnd U o U' L rm.cells rm.slots)
theorem own_met {y : MethodName} {bytes : ByteArray} {maxL : Nat} {ret : Option FieldType} {rm : Room} {as' : Array Value} {h0 : Heap} (hpl : plainFor y = true)
    (body : ∀ (p : Program) (e : Env) (s : State) (m : MethodId) (below : List Frame) (meth : Method) (c : Code) (T : State), Stand p l e rm s m as' below meth c T [] 0 0 → p.tables.exec = Jvm.exec → c.code = bytes → c.maxLocals = maxL → s.vm.findClass y.cls = some m.cls → Z.Warmed39 s.vm → T.heap = h0 → meth.sig.returnType = ret → meth.locks = false → meth.name = y.name →
      own_Fin p e below s rm.cells rm.slots Q (T.setTop (entryFrame m as' maxL))) : own_Met l Z y bytes maxL ret rm as' h0 Q := by
  intro ws
  refine MetFree.of_bodySF hpl hisR ?_
  intro p e s m args below meth c s₁ Bd hml0 hP hK
  obtain ⟨rfl, hZ, hh⟩ := hP
  have X0 : Stand p l e rm s m _ below meth c s₁ [] 0 0 := Stand.of_body Bd
  exact body p e s m below meth c s₁ X0 Bd.exec Bd.bytes hml0 (findClass_of_methodNamed Bd.named) hZ (by rw [← hh, Bd.state]; rfl) Bd.returns Bd.notSynchronized (name_of_methodNamed Bd.named Bd.method).1
/-! returns -/
theorem own_retI (X : Stand p l e R s m args below meth c T locs cells slots) (hx : p.tables.exec = Jvm.exec) (hlk : meth.locks = false) (eT : T.heap = h) {z : Int32} (hret : meth.sig.returnType = some .int) (hd : decode c.code pc = .ok (.ireturn, 1)) (hC : cells ≤ C) (hN : slots ≤ N) (hQ : Q (some (.int z)) h locs) :
    own_Fin p e below s C N Q (T.setTop (mkF m pc Ls (.int z :: rest))) := by
  obtain ⟨fs, hr, hrun, hended, hW, hsame⟩ := X.leave (v := some (.int z)) (fun h => by rw [hret] at h; cases h) hlk
  exact ⟨_, _, retOut X hx hret rfl (Or.inl ⟨rfl, Or.inl rfl, _, rfl⟩) hd hr, hrun, hended, _, _, rfl, (by show Q _ T.heap _; rw [eT]; exact hQ), ⟨_, rfl⟩, hW, hsame.mono hC hN⟩
theorem own_retN (X : Stand p l e R s m args below meth c T locs cells slots) (hx : p.tables.exec = Jvm.exec) (hlk : meth.locks = false) (eT : T.heap = h) {z z' : Int32} {t : FieldType} (hret : meth.sig.returnType = some t) (ht : t = .boolean ∨ t = .byte ∨ t = .char ∨ t = .short) (hd : decode c.code pc = .ok (.ireturn, 1)) (hC : cells ≤ C) (hN : slots ≤ N) (hz : nar t z = z') (hQ : Q (some (.int z')) h locs) :
    own_Fin p e below s C N Q (T.setTop (mkF m pc Ls (.int z :: rest))) := by
  subst hz
  obtain ⟨fs, hr, hrun, hended, hW, hsame⟩ := X.leave (v := some (.int (nar t z))) (fun h => by rw [hret] at h; cases h) hlk
  exact ⟨_, _, retN X hx hret ht hd hr, hrun, hended, _, _, rfl, (by show Q _ T.heap _; rw [eT]; exact hQ), ⟨_, rfl⟩, hW, hsame.mono hC hN⟩
theorem own_retJ (X : Stand p l e R s m args below meth c T locs cells slots) (hx : p.tables.exec = Jvm.exec) (hlk : meth.locks = false) (eT : T.heap = h) {z : Int64} (hret : meth.sig.returnType = some .long) (hd : decode c.code pc = .ok (.lreturn, 1)) (hC : cells ≤ C) (hN : slots ≤ N) (hQ : Q (some (.long z)) h locs) :
    own_Fin p e below s C N Q (T.setTop (mkF m pc Ls (.long z :: rest))) := by
  obtain ⟨fs, hr, hrun, hended, hW, hsame⟩ := X.leave (v := some (.long z)) (fun h => by rw [hret] at h; cases h) hlk
  exact ⟨_, _, retOut X hx hret rfl (Or.inr (Or.inl ⟨rfl, rfl, _, rfl⟩)) hd hr, hrun, hended, _, _, rfl, (by show Q _ T.heap _; rw [eT]; exact hQ), ⟨_, rfl⟩, hW, hsame.mono hC hN⟩
theorem own_retA (X : Stand p l e R s m args below meth c T locs cells slots) (hx : p.tables.exec = Jvm.exec) (hlk : meth.locks = false) (eT : T.heap = h) {t : FieldType} (ht : t.isReference = true) (hret : meth.sig.returnType = some t) (hn : narrow t (.ref a) = .ref a) (hd : decode c.code pc = .ok (.areturn, 1)) (hC : cells ≤ C) (hN : slots ≤ N) (hQ : Q (some (.ref a)) h locs) :
    own_Fin p e below s C N Q (T.setTop (mkF m pc Ls (.ref a :: rest))) := by
  obtain ⟨fs, hr, hrun, hended, hW, hsame⟩ := X.leave (v := some (.ref a)) (fun h => by rw [hret] at h; cases h) hlk
  exact ⟨_, _, retOut X hx hret hn (Or.inr (Or.inr (Or.inr (Or.inr ⟨rfl, ht, rfl⟩)))) hd hr, hrun, hended, _, _, rfl, (by show Q _ T.heap _; rw [eT]; exact hQ), ⟨_, rfl⟩, hW, hsame.mono hC hN⟩
theorem own_retV (X : Stand p l e R s m args below meth c T locs cells slots) (hx : p.tables.exec = Jvm.exec) (hlk : meth.locks = false) (eT : T.heap = h) (hret : meth.sig.returnType = none) (hd : decode c.code pc = .ok (.return_, 1)) (hC : cells ≤ C) (hN : slots ≤ N) (hQ : Q none h locs) :
    own_Fin p e below s C N Q (T.setTop (mkF m pc Ls [])) := by
  obtain ⟨fs, hr, hrun, hended, hW, hsame⟩ := X.leave (v := none) (fun _ => rfl) hlk
  exact ⟨_, _, X.returnOut hx hret hd hr, hrun, hended, _, _, rfl, (by show Q _ T.heap _; rw [eT]; exact hQ), ⟨_, rfl⟩, hW, hsame.mono hC hN⟩
/-! calls -/
theorem own_callS (X : Stand p l e R s m args below meth c T locs cells slots) (hx : p.tables.exec = Jvm.exec) (hZ : Z.Warmed39 s.vm) {own : String} {index : Nat} {y : MethodName} {bytes : ByteArray} {maxL : Nat} {ret : Option FieldType} {rm : Room} {W : Nat} {argsL : List Value} {Qc : Option Value → Heap → List Loc → Prop}
    (hown : s.vm.findClass own = some m.cls) (wl : (Cond.methodLink own index y).before a0 Z = true) (wst : (Cond.static y).before a0 Z = true) (wi : (Cond.initialized y.cls).before a0 Z = true) (wc : (Cond.code y bytes maxL ret).before a0 Z = true) (hy : y.cls ≠ "java/lang/invoke/MethodHandle" ∧ y.cls ≠ "java/lang/invoke/VarHandle")
    (eT : T.heap = h) (hM : own_Met l Z y bytes maxL ret rm argsL.toArray h Qc) (hfr : rm.frames + 1 ≤ R.frames) (hlo : W + (maxL + 11) + rm.locals ≤ R.locals) (hce : cells + rm.cells ≤ R.cells) (hsl : slots + rm.slots ≤ R.slots)
    (hsize : Ls.size = c.maxLocals) {ps : List FieldType} {r : Option FieldType} (hpd : parseMethodDescriptor y.desc = some ⟨ps, r⟩) (hlen : argsL.length = ps.length) {St : List Value} (hs : St = argsL.reverse ++ rest) (hW : (rest.map fun v => v.category).sum ≤ W) (hd : decode c.code pc = .ok (.invokestatic index, 3))
    (k : ∀ v T' h' L, Stand p l e R s m args below meth c T' (locs ++ L) (cells + rm.cells) (slots + rm.slots) → T'.heap = h' → Qc v h' L → own_Fin p e below s C N Q (T'.setTop (mkF m (pc + 3) Ls (v.toList ++ rest)))) :
    own_Fin p e below s C N Q (T.setTop (mkF m pc Ls St)) := by
  subst hs
  obtain ⟨v, _, ⟨T', L', k', n'⟩, -, X', ⟨Lc, hQ, l1, y1, z1⟩, st⟩ := Jvm.LawKit.callS X hx (y := y) hown (mvT hZ wl) (mvT hZ wst) (mvT hZ wi) (mvT hZ wc) hy (backOf (W := W) (hM []) hZ wc wi hfr hlo) (g := mkF m pc Ls (argsL.reverse ++ rest)) rfl hsize (argsL := argsL) (rest := rest) (lenOf hpd hlen) rfl (by show 2 * 0 + _ ≤ _; simpa using hW) hd (fun _ _ => ⟨rfl, eT, hce, hsl⟩)
  dsimp only [Pt.U, Pt.locs, Pt.cells, Pt.slots] at X' l1 y1 z1 st hQ
  subst l1 y1 z1
  exact own_of st (k _ _ _ _ X' rfl hQ)
def own_Pure (r : Value) (h : Heap) : Option Value → Heap → List Loc → Prop := fun v h' L => v = some r ∧ h' = h ∧ L = []
theorem own_callP (X : Stand p l e R s m args below meth c T locs cells slots) (hx : p.tables.exec = Jvm.exec) (hZ : Z.Warmed39 s.vm) {own : String} {index : Nat} {y : MethodName} {bytes : ByteArray} {maxL : Nat} {ret : Option FieldType} {fr lo : Nat} {W : Nat} {argsL : List Value} {rv : Value}
    (hown : s.vm.findClass own = some m.cls) (wl : (Cond.methodLink own index y).before a0 Z = true) (wst : (Cond.static y).before a0 Z = true) (wi : (Cond.initialized y.cls).before a0 Z = true) (wc : (Cond.code y bytes maxL ret).before a0 Z = true) (hy : y.cls ≠ "java/lang/invoke/MethodHandle" ∧ y.cls ≠ "java/lang/invoke/VarHandle")
    (eT : T.heap = h) (hM : own_Met l Z y bytes maxL ret { frames := fr, cells := 0, slots := 0, locals := lo } argsL.toArray h (own_Pure rv h)) (hfr : fr + 1 ≤ R.frames) (hlo : W + (maxL + 11) + lo ≤ R.locals) (hce : cells ≤ R.cells) (hsl : slots ≤ R.slots)
    (hsize : Ls.size = c.maxLocals) {ps : List FieldType} {r : Option FieldType} (hpd : parseMethodDescriptor y.desc = some ⟨ps, r⟩) (hlen : argsL.length = ps.length) {St : List Value} (hs : St = argsL.reverse ++ rest) (hW : (rest.map fun v => v.category).sum ≤ W) (hd : decode c.code pc = .ok (.invokestatic index, 3))
    (k : ∀ T', Stand p l e R s m args below meth c T' locs cells slots → T'.heap = h → own_Fin p e below s C N Q (T'.setTop (mkF m (pc + 3) Ls (rv :: rest)))) :
    own_Fin p e below s C N Q (T.setTop (mkF m pc Ls St)) := by
  refine own_callS X hx hZ hown wl wst wi wc hy eT hM hfr hlo hce hsl hsize hpd hlen hs hW hd ?_
  rintro v T' h' L X' e' ⟨rfl, rfl, rfl⟩
  rw [List.append_nil] at X'
  exact k T' X' e'
theorem own_callV (X : Stand p l e R s m args below meth c T locs cells slots) (hx : p.tables.exec = Jvm.exec) (hZ : Z.Warmed39 s.vm) {own K : String} {index : Nat} {y z : MethodName} {bytes : ByteArray} {maxL : Nat} {ret : Option FieldType} {rm : Room} {W : Nat} {argsL : List Value} {Qc : Option Value → Heap → List Loc → Prop}
    (hown : s.vm.findClass own = some m.cls) (wl : (Cond.methodLink own index y).before a0 Z = true) (wd : (Cond.declares y).before a0 Z = true) (hnf : NotFace s y) (wse : (Cond.selects K y z).before a0 Z = true) (win : (Cond.instanceMethod z).before a0 Z = true) (wi : (Cond.initialized z.cls).before a0 Z = true) (wc : (Cond.code z bytes maxL ret).before a0 Z = true) (hy : y.cls ≠ "java/lang/invoke/MethodHandle" ∧ y.cls ≠ "java/lang/invoke/VarHandle")
    (eT : T.heap = h) (E : Exa Z h b K) (hM : own_Met l Z z bytes maxL ret rm (.ref b :: argsL).toArray h Qc) (hfr : rm.frames + 1 ≤ R.frames) (hlo : W + (maxL + 11) + rm.locals ≤ R.locals) (hce : cells + rm.cells ≤ R.cells) (hsl : slots + rm.slots ≤ R.slots)
    (hsize : Ls.size = c.maxLocals) {ps : List FieldType} {r : Option FieldType} (hpd : parseMethodDescriptor y.desc = some ⟨ps, r⟩) (hlen : argsL.length = ps.length) {St : List Value} (hs : St = argsL.reverse ++ .ref b :: rest) (hW : (rest.map fun v => v.category).sum ≤ W) (hd : decode c.code pc = .ok (.invokevirtual index, 3))
    (k : ∀ v T' h' L, Stand p l e R s m args below meth c T' (locs ++ L) (cells + rm.cells) (slots + rm.slots) → T'.heap = h' → Qc v h' L → own_Fin p e below s C N Q (T'.setTop (mkF m (pc + 3) Ls (v.toList ++ rest)))) :
    own_Fin p e below s C N Q (T.setTop (mkF m pc Ls St)) := by
  subst hs
  obtain ⟨cq, kq, qa, qb, qc⟩ := isOf hZ eT E
  obtain ⟨v, _, ⟨T', L', k', n'⟩, -, X', ⟨Lc, hQ, l1, y1, z1⟩, st⟩ := X.virtualBack hx (y := y) (z := z) hown (mvT hZ wl) (mvT hZ wd) hnf (mvT hZ wse) (mvT hZ win) hy (backOf (W := W) (hM []) hZ wc wi hfr hlo) qa qc (g := mkF m pc Ls (argsL.reverse ++ .ref b :: rest)) rfl hsize (Steps.refl _) (argsL := argsL) (rest := rest) (lenOf hpd hlen) rfl (by show 2 * 0 + _ ≤ _; simpa using hW) hd (fun _ _ => ⟨rfl, eT, hce, hsl⟩)
  dsimp only [Pt.U, Pt.locs, Pt.cells, Pt.slots] at X' l1 y1 z1 st hQ
  subst l1 y1 z1
  exact own_of (fun t k => st.trans k) (k _ _ _ _ X' rfl hQ)
theorem own_callC (X : Stand p l e R s m args below meth c T locs cells slots) (hx : p.tables.exec = Jvm.exec) (hZ : Z.Warmed39 s.vm) {own : String} {index : Nat} {y : MethodName} {bytes : ByteArray} {maxL : Nat} {rm : Room} {W : Nat} {argsL : List Value} {Qc : Option Value → Heap → List Loc → Prop} (hn : y.name = "<init>")
    (hown : s.vm.findClass own = some m.cls) (wl : (Cond.methodLink own index y).before a0 Z = true) (win : (Cond.instanceMethod y).before a0 Z = true) (wi : (Cond.initialized y.cls).before a0 Z = true) (wc : (Cond.code y bytes maxL none).before a0 Z = true) (hy : y.cls ≠ "java/lang/invoke/MethodHandle" ∧ y.cls ≠ "java/lang/invoke/VarHandle")
    (eT : T.heap = h) (hM : own_Met l Z y bytes maxL none rm (.ref b :: argsL).toArray h Qc) (hfr : rm.frames + 1 ≤ R.frames) (hlo : W + (maxL + 11) + rm.locals ≤ R.locals) (hce : cells + rm.cells ≤ R.cells) (hsl : slots + rm.slots ≤ R.slots)
    (hsize : Ls.size = c.maxLocals) {ps : List FieldType} {r : Option FieldType} (hpd : parseMethodDescriptor y.desc = some ⟨ps, r⟩) (hlen : argsL.length = ps.length) {St : List Value} (hs : St = argsL.reverse ++ .ref b :: rest) (hW : (rest.map fun v => v.category).sum ≤ W) (hd : decode c.code pc = .ok (.invokespecial index, 3))
    (k : ∀ v T' h' L, Stand p l e R s m args below meth c T' (locs ++ L) (cells + rm.cells) (slots + rm.slots) → T'.heap = h' → Qc v h' L → own_Fin p e below s C N Q (T'.setTop (mkF m (pc + 3) Ls (v.toList ++ rest)))) :
    own_Fin p e below s C N Q (T.setTop (mkF m pc Ls St)) := by
  subst hs
  obtain ⟨v, _, ⟨T', L', k', n'⟩, -, X', ⟨Lc, hQ, l1, y1, z1⟩, st⟩ := X.specialBack hx (y := y) hn hown (mvT hZ wl) (mvT hZ win) (mvT hZ wc) hy (backOf (W := W) (hM []) hZ wc wi hfr hlo) (g := mkF m pc Ls (argsL.reverse ++ .ref b :: rest)) rfl hsize (Steps.refl _) (a := b) (argsL := argsL) (rest := rest) (lenOf hpd hlen) rfl (by show 2 * 0 + _ ≤ _; simpa using hW) hd (fun _ _ => ⟨rfl, eT, hce, hsl⟩)
  dsimp only [Pt.U, Pt.locs, Pt.cells, Pt.slots] at X' l1 y1 z1 st hQ
  subst l1 y1 z1
  exact own_of (fun t k => st.trans k) (k _ _ _ _ X' rfl hQ)
/-! arrays: n places, the j-th holds f j -/
def own_Arf (Z : State) (h : Heap) (a : Addr) (ty : FieldType) (n : Nat) (f : Nat → Value) : Prop := ∃ cl : Cell, Arr Z h a cl ty ∧ cl.slots.size = n ∧ ∀ j, j < n → cl.slots[j]? = some (f j)
section Ar
variable {ty : FieldType} {n : Nat} {f g : Nat → Value} {sl : Nat} {v : Value} {ws : List Addr}
theorem own_Arf.lt (F : own_Arf Z h a ty n f) : a < h.size := by obtain ⟨cl, A, -⟩ := F; exact A.lt
theorem own_Arf.ext (F : own_Arf Z h a ty n f) (E : Ext h h') : own_Arf Z h' a ty n f := by obtain ⟨cl, A, r⟩ := F; exact ⟨cl, A.ext E, r⟩
theorem own_Arf.other (F : own_Arf Z h b ty n f) (W : Wr h h' a sl v) (q : b ≠ a) : own_Arf Z h' b ty n f := by obtain ⟨cl, A, r⟩ := F; exact ⟨cl, A.other W q, r⟩
theorem own_Arf.keep (F : own_Arf Z h a ty n f) (K : Keep h h' ws) (q : a ∉ ws) : own_Arf Z h' a ty n f := by obtain ⟨cl, A, r⟩ := F; exact ⟨cl, ⟨K.2.1 a cl A.1 q, A.2⟩, r⟩
theorem own_Arf.congr (F : own_Arf Z h a ty n f) (q : ∀ j, j < n → f j = g j) : own_Arf Z h a ty n g := by obtain ⟨cl, A, r, s⟩ := F; exact ⟨cl, A, r, fun j hj => by rw [s j hj, q j hj]⟩
theorem own_Arf.set (F : own_Arf Z h a ty n f) (W : Wr h h' a sl v) : own_Arf Z h' a ty n (fun j => if j = sl then v else f j) := by
  obtain ⟨cl, A, r, q⟩ := F
  refine ⟨_, A.same W, by rw [sz_set]; exact r, fun j hj => ?_⟩
  by_cases u : j = sl
  · subst u; simp [Cell.setSlot, r, hj]
  · show (cl.slots.setIfInBounds sl v)[j]? = some (if j = sl then v else f j)
    rw [if_neg u, Array.getElem?_setIfInBounds_ne (Ne.symm u)]; exact q j hj
theorem own_Arf.new {k : ClassId} {z : Int32} (A : Arr Z h a (newA k ty z) ty) (hz : z.toInt = n) : own_Arf Z h a ty n (fun _ => defaultValue ty) := by
  have e : z.toNatClampNeg = n := by simp only [Int32.toNatClampNeg, hz]; rfl
  refine ⟨_, A, by rw [sz_new]; exact e, fun j hj => ?_⟩
  simp [newA, e, hj]
theorem own_in {j : Int32} {i k : Nat} (hj : j.toInt = i) (hi : i < k) : ¬ (j < 0 ∨ k ≤ j.toNatClampNeg) := by
  simp only [Int32.lt_iff_toInt_lt, Int32.toNatClampNeg, hj, Int32.reduceToInt]; omega
theorem own_nc {j : Int32} {i : Nat} (hj : j.toInt = i) : j.toNatClampNeg = i := by simp only [Int32.toNatClampNeg, hj]; rfl
theorem own_iaload (X : Stand p l e R s m args below meth c T locs cells slots) (hx : p.tables.exec = Jvm.exec) (hZ : Z.Warmed39 s.vm) (eT : T.heap = h) (F : own_Arf Z h a .int n f) {j : Int32} {i : Nat} (hj : j.toInt = i) (hi : i < n) (hv : f i = v) (hd : decode c.code pc = .ok (.iaload, 1))
    (k : own_Fin p e below s C N Q (T.setTop (mkF m (pc + 1) Ls (v :: rest)))) : own_Fin p e below s C N Q (T.setTop (mkF m pc Ls (.int j :: .ref a :: rest))) := by
  obtain ⟨cl, A, r, q⟩ := F
  exact own_of (fun t kk => X.iaload hx (j := j) (v := v) (by rw [eT]; exact A.1) (State.isArrayOf_alike hZ.alike A.2.1) A.2.2 (own_in hj (by rw [r]; exact hi)) (by rw [own_nc hj, q i hi, hv]) (g := mkF m pc Ls (.int j :: .ref a :: rest)) rfl rfl hd t kk) k
theorem own_laload (X : Stand p l e R s m args below meth c T locs cells slots) (hx : p.tables.exec = Jvm.exec) (hZ : Z.Warmed39 s.vm) (eT : T.heap = h) (F : own_Arf Z h a .long n f) {j : Int32} {i : Nat} (hj : j.toInt = i) (hi : i < n) (hv : f i = v) (hd : decode c.code pc = .ok (.laload, 1))
    (k : own_Fin p e below s C N Q (T.setTop (mkF m (pc + 1) Ls (v :: rest)))) : own_Fin p e below s C N Q (T.setTop (mkF m pc Ls (.int j :: .ref a :: rest))) := by
  obtain ⟨cl, A, r, q⟩ := F
  exact own_of (fun t kk => X.laload hx (j := j) (v := v) (by rw [eT]; exact A.1) (State.isArrayOf_alike hZ.alike A.2.1) A.2.2 (own_in hj (by rw [r]; exact hi)) (by rw [own_nc hj, q i hi, hv]) (g := mkF m pc Ls (.int j :: .ref a :: rest)) rfl rfl hd t kk) k
theorem own_caload (X : Stand p l e R s m args below meth c T locs cells slots) (hx : p.tables.exec = Jvm.exec) (hZ : Z.Warmed39 s.vm) (eT : T.heap = h) (F : own_Arf Z h a .char n f) {j : Int32} {i : Nat} (hj : j.toInt = i) (hi : i < n) (hv : f i = v) (hd : decode c.code pc = .ok (.caload, 1))
    (k : own_Fin p e below s C N Q (T.setTop (mkF m (pc + 1) Ls (v :: rest)))) : own_Fin p e below s C N Q (T.setTop (mkF m pc Ls (.int j :: .ref a :: rest))) := by
  obtain ⟨cl, A, r, q⟩ := F
  exact own_of (fun t kk => X.caload hx (j := j) (v := v) (by rw [eT]; exact A.1) (State.isArrayOf_alike hZ.alike A.2.1) A.2.2 (own_in hj (by rw [r]; exact hi)) (by rw [own_nc hj, q i hi, hv]) (g := mkF m pc Ls (.int j :: .ref a :: rest)) rfl rfl hd t kk) k
theorem own_baload (X : Stand p l e R s m args below meth c T locs cells slots) (hx : p.tables.exec = Jvm.exec) (hZ : Z.Warmed39 s.vm) (eT : T.heap = h) (F : own_Arf Z h a .byte n f) {j : Int32} {i : Nat} (hj : j.toInt = i) (hi : i < n) (hv : f i = v) (hd : decode c.code pc = .ok (.baload, 1))
    (k : own_Fin p e below s C N Q (T.setTop (mkF m (pc + 1) Ls (v :: rest)))) : own_Fin p e below s C N Q (T.setTop (mkF m pc Ls (.int j :: .ref a :: rest))) := by
  obtain ⟨cl, A, r, q⟩ := F
  exact own_of (fun t kk => X.baloadBytes hx (j := j) (v := v) (by rw [eT]; exact A.1) (State.isArrayOf_alike hZ.alike A.2.1) A.2.2 (own_in hj (by rw [r]; exact hi)) (by rw [own_nc hj, q i hi, hv]) (g := mkF m pc Ls (.int j :: .ref a :: rest)) rfl rfl hd t kk) k
theorem own_zaload (X : Stand p l e R s m args below meth c T locs cells slots) (hx : p.tables.exec = Jvm.exec) (hZ : Z.Warmed39 s.vm) (eT : T.heap = h) (F : own_Arf Z h a .boolean n f) {j : Int32} {i : Nat} (hj : j.toInt = i) (hi : i < n) (hv : f i = v) (hd : decode c.code pc = .ok (.baload, 1))
    (k : own_Fin p e below s C N Q (T.setTop (mkF m (pc + 1) Ls (v :: rest)))) : own_Fin p e below s C N Q (T.setTop (mkF m pc Ls (.int j :: .ref a :: rest))) := by
  obtain ⟨cl, A, r, q⟩ := F
  exact own_of (fun t kk => X.baloadBooleans hx (j := j) (v := v) (by rw [eT]; exact A.1) (State.isArrayOf_alike hZ.alike A.2.1) A.2.2 (own_in hj (by rw [r]; exact hi)) (by rw [own_nc hj, q i hi, hv]) (g := mkF m pc Ls (.int j :: .ref a :: rest)) rfl rfl hd t kk) k
theorem own_arraylength (X : Stand p l e R s m args below meth c T locs cells slots) (hx : p.tables.exec = Jvm.exec) (hZ : Z.Warmed39 s.vm) (eT : T.heap = h) (F : own_Arf Z h a ty n f) {z : Int32} (hz : z.toInt = n) (hd : decode c.code pc = .ok (.arraylength, 1))
    (k : own_Fin p e below s C N Q (T.setTop (mkF m (pc + 1) Ls (.int z :: rest)))) : own_Fin p e below s C N Q (T.setTop (mkF m pc Ls (.ref a :: rest))) := by
  obtain ⟨cl, A, r, q⟩ := F
  have e1 : cl.slots.size.toInt32 = z := by
    have hlt := Int32.toInt_lt z
    apply Int32.toInt_inj.mp
    rw [r, len_toInt (by omega), hz]
  refine own_of (fun t kk => X.arraylength hx (by rw [eT]; exact A.1) (State.isArrayOf_alike hZ.alike A.2.1) (g := mkF m pc Ls (.ref a :: rest)) rfl rfl hd t kk) ?_
  rw [e1]; exact k
variable {n0 : Nat}
theorem own_st {kd : Value} {i : Nat} {j : Int32} (hj : j.toInt = i) (F : own_Arf Z h a ty n f) (hN : Fr n0 locs) (ge : n0 ≤ a) {A : State} {fr : JFrame}
    (hst : ∃ T' h', Stand p l e R s m args below meth c T' (locs ++ [⟨a, j.toNatClampNeg⟩]) cells slots ∧ T'.heap = h' ∧ Wr h h' a j.toNatClampNeg kd ∧ ∀ target, Steps p.tables e below (T'.setTop fr) target → Steps p.tables e below A target)
    (k : ∀ T' h' locs', Stand p l e R s m args below meth c T' locs' cells slots → Fr n0 locs' → T'.heap = h' → Wr h h' a i kd → own_Arf Z h' a ty n (fun j => if j = i then kd else f j) → own_Fin p e below s C N Q (T'.setTop fr)) :
    own_Fin p e below s C N Q A := by
  obtain ⟨T', h', X', e', W, st⟩ := hst
  have hN' := Fr.snoc X' hN ge
  rw [own_nc hj] at W
  exact own_of st (k T' h' _ X' hN' e' W (F.set W))
theorem own_iastore (X : Stand p l e R s m args below meth c T locs cells slots) (hx : p.tables.exec = Jvm.exec) (hZ : Z.Warmed39 s.vm) (eT : T.heap = h) (F : own_Arf Z h a .int n f) (hN : Fr n0 locs) (ge : n0 ≤ a) {j x : Int32} {i : Nat} (hj : j.toInt = i) (hi : i < n) (hd : decode c.code pc = .ok (.iastore, 1))
    (k : ∀ T' h' locs', Stand p l e R s m args below meth c T' locs' cells slots → Fr n0 locs' → T'.heap = h' → Wr h h' a i (.int x) → own_Arf Z h' a .int n (fun j => if j = i then .int x else f j) → own_Fin p e below s C N Q (T'.setTop (mkF m (pc + 1) Ls rest))) :
    own_Fin p e below s C N Q (T.setTop (mkF m pc Ls (.int x :: .int j :: .ref a :: rest))) := by
  have F' := F
  obtain ⟨cl, A, r, q⟩ := F
  exact own_st hj F' hN ge (stI X hx hZ eT A (j := j) (own_in hj (by rw [r]; exact hi)) (g := mkF m pc Ls (.int x :: .int j :: .ref a :: rest)) rfl rfl hd) k
theorem own_lastore (X : Stand p l e R s m args below meth c T locs cells slots) (hx : p.tables.exec = Jvm.exec) (hZ : Z.Warmed39 s.vm) (eT : T.heap = h) (F : own_Arf Z h a .long n f) (hN : Fr n0 locs) (ge : n0 ≤ a) {j : Int32} {x : Int64} {i : Nat} (hj : j.toInt = i) (hi : i < n) (hd : decode c.code pc = .ok (.lastore, 1))
    (k : ∀ T' h' locs', Stand p l e R s m args below meth c T' locs' cells slots → Fr n0 locs' → T'.heap = h' → Wr h h' a i (.long x) → own_Arf Z h' a .long n (fun j => if j = i then .long x else f j) → own_Fin p e below s C N Q (T'.setTop (mkF m (pc + 1) Ls rest))) :
    own_Fin p e below s C N Q (T.setTop (mkF m pc Ls (.long x :: .int j :: .ref a :: rest))) := by
  have F' := F
  obtain ⟨cl, A, r, q⟩ := F
  exact own_st hj F' hN ge (stJ X hx hZ eT A (j := j) (own_in hj (by rw [r]; exact hi)) (g := mkF m pc Ls (.long x :: .int j :: .ref a :: rest)) rfl rfl hd) k
theorem own_bastore (X : Stand p l e R s m args below meth c T locs cells slots) (hx : p.tables.exec = Jvm.exec) (hZ : Z.Warmed39 s.vm) (eT : T.heap = h) (F : own_Arf Z h a .byte n f) (hN : Fr n0 locs) (ge : n0 ≤ a) {j x : Int32} {i : Nat} (hj : j.toInt = i) (hi : i < n) (hd : decode c.code pc = .ok (.bastore, 1))
    (k : ∀ T' h' locs', Stand p l e R s m args below meth c T' locs' cells slots → Fr n0 locs' → T'.heap = h' → Wr h h' a i (.int x.toInt8.toInt32) → own_Arf Z h' a .byte n (fun j => if j = i then .int x.toInt8.toInt32 else f j) → own_Fin p e below s C N Q (T'.setTop (mkF m (pc + 1) Ls rest))) :
    own_Fin p e below s C N Q (T.setTop (mkF m pc Ls (.int x :: .int j :: .ref a :: rest))) := by
  have F' := F
  obtain ⟨cl, A, r, q⟩ := F
  exact own_st hj F' hN ge (stB X hx hZ eT A (j := j) (own_in hj (by rw [r]; exact hi)) (g := mkF m pc Ls (.int x :: .int j :: .ref a :: rest)) rfl rfl hd) k
theorem own_castore (X : Stand p l e R s m args below meth c T locs cells slots) (hx : p.tables.exec = Jvm.exec) (hZ : Z.Warmed39 s.vm) (eT : T.heap = h) (F : own_Arf Z h a .char n f) (hN : Fr n0 locs) (ge : n0 ≤ a) {j x : Int32} {i : Nat} (hj : j.toInt = i) (hi : i < n) (hd : decode c.code pc = .ok (.castore, 1))
    (k : ∀ T' h' locs', Stand p l e R s m args below meth c T' locs' cells slots → Fr n0 locs' → T'.heap = h' → Wr h h' a i (.int x.toUInt32.toUInt16.toUInt32.toInt32) → own_Arf Z h' a .char n (fun j => if j = i then .int x.toUInt32.toUInt16.toUInt32.toInt32 else f j) → own_Fin p e below s C N Q (T'.setTop (mkF m (pc + 1) Ls rest))) :
    own_Fin p e below s C N Q (T.setTop (mkF m pc Ls (.int x :: .int j :: .ref a :: rest))) := by
  have F' := F
  obtain ⟨cl, A, r, q⟩ := F
  exact own_st hj F' hN ge (stC X hx hZ eT A (j := j) (own_in hj (by rw [r]; exact hi)) (g := mkF m pc Ls (.int x :: .int j :: .ref a :: rest)) rfl rfl hd) k
theorem own_zastore (X : Stand p l e R s m args below meth c T locs cells slots) (hx : p.tables.exec = Jvm.exec) (hZ : Z.Warmed39 s.vm) (eT : T.heap = h) (F : own_Arf Z h a .boolean n f) (hN : Fr n0 locs) (ge : n0 ≤ a) {j x : Int32} {i : Nat} (hj : j.toInt = i) (hi : i < n) (hd : decode c.code pc = .ok (.bastore, 1))
    (k : ∀ T' h' locs', Stand p l e R s m args below meth c T' locs' cells slots → Fr n0 locs' → T'.heap = h' → Wr h h' a i (.int (x &&& 1)) → own_Arf Z h' a .boolean n (fun j => if j = i then .int (x &&& 1) else f j) → own_Fin p e below s C N Q (T'.setTop (mkF m (pc + 1) Ls rest))) :
    own_Fin p e below s C N Q (T.setTop (mkF m pc Ls (.int x :: .int j :: .ref a :: rest))) := by
  have F' := F
  obtain ⟨cl, A, r, q⟩ := F
  exact own_st hj F' hN ge (stZ X hx hZ eT A (j := j) (own_in hj (by rw [r]; exact hi)) (g := mkF m pc Ls (.int x :: .int j :: .ref a :: rest)) rfl rfl hd) k
theorem own_newP (X : Stand p l e R s m args below meth c T locs cells slots) (hx : p.tables.exec = Jvm.exec) (hZ : Z.Warmed39 s.vm) {aty : ArrayType} (w : (Cond.arrayClass (newarray.typeOf aty)).before a0 Z = true) (eT : T.heap = h) (hd : decode c.code pc = .ok (.newarray aty, 2)) {z : Int32} (hz : z.toInt = n) {cap : Nat} (hcap : n ≤ cap) (hb : cap * 8 ≤ 536870912) (hc : cells + 1 ≤ R.cells) (hl : slots + cap ≤ R.slots)
    (k : ∀ T' h' b, Stand p l e R s m args below meth c T' locs (cells + 1) (slots + cap) → T'.heap = h' → Ext h h' → b = h.size → own_Arf Z h' b (newarray.typeOf aty) n (fun _ => defaultValue (newarray.typeOf aty)) → own_Fin p e below s C N Q (T'.setTop (mkF m (pc + 2) Ls (.ref b :: rest)))) :
    own_Fin p e below s C N Q (T.setTop (mkF m pc Ls (.int z :: rest))) := by
  obtain ⟨T', h', cA, X', e', E, A, st⟩ := newP X hx hZ w eT (g := mkF m pc Ls (.int z :: rest)) rfl hd rfl (by rw [Int32.lt_iff_toInt_lt, hz]; show ¬ (n : Int) < 0; omega) (cap := cap) (by rw [own_nc hz]; exact hcap) hb hc hl
  exact own_of st (k T' h' _ X' e' E rfl (own_Arf.new A hz))
end Ar
/-! objects -/
section Ob
variable {n0 : Nat} {v : Value}
theorem own_getF (X : Stand p l e R s m args below meth c T locs cells slots) (hx : p.tables.exec = Jvm.exec) (hZ : Z.Warmed39 s.vm) {own O n d : String} {index : Nat} (hown : s.vm.findClass own = some m.cls) (w : (Cond.fieldLink own index O n d).before a0 Z = true) (eT : T.heap = h) (F : Fld Z h a O n d v) (hd : decode c.code pc = .ok (.getfield index, 3))
    (k : ∀ T', Stand p l e R s m args below meth c T' locs cells slots → T'.heap = h → own_Fin p e below s C N Q (T'.setTop (mkF m (pc + 3) Ls (v :: rest)))) :
    own_Fin p e below s C N Q (T.setTop (mkF m pc Ls (.ref a :: rest))) := by
  obtain ⟨T', X', e', st⟩ := getF X hx hZ hown (host := "") (Or.inl w) Via.refl eT F (g := mkF m pc Ls (.ref a :: rest)) rfl rfl hd
  exact own_of st (k T' X' e')
theorem own_putF (X : Stand p l e R s m args below meth c T locs cells slots) (hx : p.tables.exec = Jvm.exec) (hZ : Z.Warmed39 s.vm) {own O n d K : String} {index kk : Nat} {ty : FieldType} {old : Value} (hown : s.vm.findClass own = some m.cls) (w : (Cond.fieldLink own index O n d).before a0 Z = true) (eT : T.heap = h) (F : Fld Z h a O n d old) (E : Exa Z h a K)
    (L : (Cond.lays K O n d).before a0 Z = true ∨ ((Cond.laysFinal K O n d).before a0 Z = true ∧ own = O ∧ meth.name = "<init>")) (wi : (Cond.instantiable K kk).before a0 Z = true) (hty : parseFieldDescriptor d = some ty) (hn : narrow ty v = v) (hf : fits ty v = true) (hN : Fr n0 locs) (ge : n0 ≤ a) (hd : decode c.code pc = .ok (.putfield index, 3))
    (k : ∀ T' h' locs', Stand p l e R s m args below meth c T' locs' cells slots → Fr n0 locs' → T'.heap = h' → Wr h h' a (slotOf Z O n d) v → own_Fin p e below s C N Q (T'.setTop (mkF m (pc + 3) Ls rest))) :
    own_Fin p e below s C N Q (T.setTop (mkF m pc Ls (v :: .ref a :: rest))) := by
  obtain ⟨T', h', X', e', W, st⟩ := putF X hx hZ hown (host := "") (Or.inl w) Via.refl eT F E L wi hty hn hf (g := mkF m pc Ls (v :: .ref a :: rest)) rfl rfl hd
  exact own_of st (k T' h' _ X' (Fr.snoc X' hN ge) e' W)
theorem own_newO (X : Stand p l e R s m args below meth c T locs cells slots) (hx : p.tables.exec = Jvm.exec) (hZ : Z.Warmed39 s.vm) {own K : String} {index n : Nat} (hown : s.vm.findClass own = some m.cls) (w : (Cond.classLink own index K).before a0 Z = true) (wi : (Cond.instantiable K n).before a0 Z = true) (wz : (Cond.initialized K).before a0 Z = true) (eT : T.heap = h) (hd : decode c.code pc = .ok (.new index, 3)) (hc : cells + 1 ≤ R.cells) (hl : slots + n ≤ R.slots)
    (k : ∀ T' h' b, Stand p l e R s m args below meth c T' locs (cells + 1) (slots + n) → T'.heap = h' → Ext h h' → b = h.size → Exa Z h' b K → (∀ {O nm d : String} {ty : FieldType}, Laid Z a0 K O nm d → parseFieldDescriptor d = some ty → Fld Z h' b O nm d (defaultValue ty)) → own_Fin p e below s C N Q (T'.setTop (mkF m (pc + 3) Ls (.ref b :: rest)))) :
    own_Fin p e below s C N Q (T.setTop (mkF m pc Ls rest)) := by
  obtain ⟨T', h', X', e', E, A, D, -, st⟩ := newO X hx hZ hown w wi wz eT (g := mkF m pc Ls rest) rfl hd hc hl
  exact own_of st (k T' h' _ X' e' E rfl A D)
theorem own_initO (X : Stand p l e R s m args below meth c T locs cells slots) (hx : p.tables.exec = Jvm.exec) (hZ : Z.Warmed39 s.vm) {own : String} {idx : Nat} (hown : s.vm.findClass own = some m.cls) (w1 : (Cond.methodLink own idx Lib.objectInit).before a0 Z = true) (w2 : (Cond.instanceMethod Lib.objectInit).before a0 Z = true) (w3 : (Cond.code Lib.objectInit ⟨#[0xb1]⟩ 1 none).before a0 Z = true) (eT : T.heap = h) (hsize : Ls.size = c.maxLocals) (hd : decode c.code pc = .ok (.invokespecial idx, 3)) (hf : 1 ≤ R.frames) {W : Nat} (hW : (rest.map fun v => v.category).sum ≤ W) (hl : W + 12 ≤ R.locals)
    (k : ∀ T', Stand p l e R s m args below meth c T' locs cells slots → T'.heap = h → own_Fin p e below s C N Q (T'.setTop (mkF m (pc + 3) Ls rest))) :
    own_Fin p e below s C N Q (T.setTop (mkF m pc Ls (.ref a :: rest))) := by
  obtain ⟨T', X', e', st⟩ := initO X hx hZ hown w1 w2 w3 eT (g := mkF m pc Ls (.ref a :: rest)) rfl hsize rfl hd hf (W := W) (by show 2 * 0 + _ ≤ _; simpa using hW) hl
  exact own_of st (k T' X' e')
theorem own_wide (X : Stand p l e R s m args below meth c T locs cells slots) {cells' slots' : Nat} (h1 : cells ≤ cells') (h2 : slots ≤ slots') : Stand p l e R s m args below meth c T locs cells' slots' := { X with same := X.same.mono h1 h2 }
end Ob
theorem own_lremM {g : JFrame} {target : State} (X : Stand p l e R s m args below meth c T locs cells slots) (hx : p.tables.exec = Jvm.exec) (hg : g.method = m) {x y : Int64} (hd : decode c.code g.pc = .ok (.lrem, 1)) (hs : g.stack = .long y :: .long x :: rest) (hy : y ≠ 0)
    (hr : Steps p.tables e below (T.setTop { g with pc := g.pc + 1, stack := .long (x % y) :: rest }) target) : Steps p.tables e below (T.setTop g) target := by
  refine XS.lrem X.here hx hg hd hs hy ?_
  rw [lrem_mod]; exact hr
end OwnKit
def own_iushr (x y : Int32) : Int32 := (x.toUInt32 >>> (y &&& 31).toUInt32).toInt32
def own_ishl (x y : Int32) : Int32 := x <<< (y &&& 31)
def own_ishr (x y : Int32) : Int32 := x >>> (y &&& 31)
def own_lushr (x : Int64) (y : Int32) : Int64 := (x.toUInt64 >>> (y &&& 0x3f).toInt64.toUInt64).toInt64
def own_lshl (x : Int64) (y : Int32) : Int64 := x <<< (y &&& 0x3f).toInt64
def own_lshr (x : Int64) (y : Int32) : Int64 := x >>> (y &&& 0x3f).toInt64
def own_i2b (x : Int32) : Int32 := x.toInt8.toInt32
def own_i2c (x : Int32) : Int32 := x.toUInt32.toUInt16.toUInt32.toInt32
def own_i2s (x : Int32) : Int32 := x.toInt16.toInt32
end Jvm.RoadKit
namespace Jvm.Pilot.@@N@@
open Jvm Jvm.ClassFile Sem Op Lib Jvm.Free Jvm.Stand Jvm.LawKit Jvm.RoadKit Bundle Jvm.Pilot.@@N@@.Jvm.D
theorem d1_0 : decode prog_61_method_1_code 0 = .ok (.aload_n 0, 1) := by decide +kernel
theorem d1_1 : decode prog_61_method_1_code 1 = .ok (.invokespecial 1, 3) := by decide +kernel
theorem d1_4 : decode prog_61_method_1_code 4 = .ok (.aload_n 0, 1) := by decide +kernel
theorem d1_5 : decode prog_61_method_1_code 5 = .ok (.aload_n 1, 1) := by decide +kernel
theorem d1_6 : decode prog_61_method_1_code 6 = .ok (.iload_n 2, 1) := by decide +kernel
theorem d1_7 : decode prog_61_method_1_code 7 = .ok (.invokevirtual 7, 3) := by decide +kernel
theorem d1_10 : decode prog_61_method_1_code 10 = .ok (.return_, 1) := by decide +kernel
theorem d3_0 : decode prog_61_method_2_code 0 = .ok (.aload_n 0, 1) := by decide +kernel
theorem d3_1 : decode prog_61_method_2_code 1 = .ok (.aload_n 1, 1) := by decide +kernel
theorem d3_2 : decode prog_61_method_2_code 2 = .ok (.putfield 13, 3) := by decide +kernel
theorem d3_5 : decode prog_61_method_2_code 5 = .ok (.aload_n 0, 1) := by decide +kernel
theorem d3_6 : decode prog_61_method_2_code 6 = .ok (.iload_n 2, 1) := by decide +kernel
theorem d3_7 : decode prog_61_method_2_code 7 = .ok (.putfield 17, 3) := by decide +kernel
theorem d3_10 : decode prog_61_method_2_code 10 = .ok (.return_, 1) := by decide +kernel
theorem d4_0 : decode prog_61_method_6_code 0 = .ok (.iload_n 1, 1) := by decide +kernel
theorem d4_1 : decode prog_61_method_6_code 1 = .ok (.iload_n 2, 1) := by decide +kernel
theorem d4_2 : decode prog_61_method_6_code 2 = .ok (.aload_n 0, 1) := by decide +kernel
theorem d4_3 : decode prog_61_method_6_code 3 = .ok (.getfield 17, 3) := by decide +kernel
theorem d4_6 : decode prog_61_method_6_code 6 = .ok (.invokestatic 27, 3) := by decide +kernel
theorem d4_9 : decode prog_61_method_6_code 9 = .ok (.pop, 1) := by decide +kernel
theorem d4_10 : decode prog_61_method_6_code 10 = .ok (.iload_n 1, 1) := by decide +kernel
theorem d4_11 : decode prog_61_method_6_code 11 = .ok (.istore 4, 2) := by decide +kernel
theorem d4_13 : decode prog_61_method_6_code 13 = .ok (.iload 4, 2) := by decide +kernel
theorem d4_15 : decode prog_61_method_6_code 15 = .ok (.iload_n 2, 1) := by decide +kernel
theorem d4_16 : decode prog_61_method_6_code 16 = .ok (.if_icmp .ge 27, 3) := by decide +kernel
theorem d4_19 : decode prog_61_method_6_code 19 = .ok (.aload_n 3, 1) := by decide +kernel
theorem d4_20 : decode prog_61_method_6_code 20 = .ok (.iload 4, 2) := by decide +kernel
theorem d4_22 : decode prog_61_method_6_code 22 = .ok (.iload_n 1, 1) := by decide +kernel
theorem d4_23 : decode prog_61_method_6_code 23 = .ok (.isub, 1) := by decide +kernel
theorem d4_24 : decode prog_61_method_6_code 24 = .ok (.aload_n 0, 1) := by decide +kernel
theorem d4_25 : decode prog_61_method_6_code 25 = .ok (.getfield 13, 3) := by decide +kernel
theorem d4_28 : decode prog_61_method_6_code 28 = .ok (.iload 4, 2) := by decide +kernel
theorem d4_30 : decode prog_61_method_6_code 30 = .ok (.baload, 1) := by decide +kernel
theorem d4_31 : decode prog_61_method_6_code 31 = .ok (.sipush 255, 3) := by decide +kernel
theorem d4_34 : decode prog_61_method_6_code 34 = .ok (.iand, 1) := by decide +kernel
theorem d4_35 : decode prog_61_method_6_code 35 = .ok (.i2c, 1) := by decide +kernel
theorem d4_36 : decode prog_61_method_6_code 36 = .ok (.castore, 1) := by decide +kernel
theorem d4_37 : decode prog_61_method_6_code 37 = .ok (.iinc 4 1, 3) := by decide +kernel
theorem d4_40 : decode prog_61_method_6_code 40 = .ok (.goto (-27), 3) := by decide +kernel
theorem d4_43 : decode prog_61_method_6_code 43 = .ok (.iconst 0, 1) := by decide +kernel
theorem d4_44 : decode prog_61_method_6_code 44 = .ok (.ireturn, 1) := by decide +kernel
theorem d5_0 : decode jdk_31_method_18_code 0 = .ok (.iload_n 0, 1) := by decide +kernel
theorem d5_1 : decode jdk_31_method_18_code 1 = .ok (.iload_n 1, 1) := by decide +kernel
theorem d5_2 : decode jdk_31_method_18_code 2 = .ok (.iload_n 2, 1) := by decide +kernel
theorem d5_3 : decode jdk_31_method_18_code 3 = .ok (.aconst_null, 1) := by decide +kernel
theorem d5_4 : decode jdk_31_method_18_code 4 = .ok (.invokestatic 111, 3) := by decide +kernel
theorem d5_7 : decode jdk_31_method_18_code 7 = .ok (.ireturn, 1) := by decide +kernel
theorem d6_0 : decode jdk_41_method_12_code 0 = .ok (.iload_n 0, 1) := by decide +kernel
theorem d6_1 : decode jdk_41_method_12_code 1 = .ok (.ifCond .lt 13, 3) := by decide +kernel
theorem d6_4 : decode jdk_41_method_12_code 4 = .ok (.iload_n 0, 1) := by decide +kernel
theorem d6_5 : decode jdk_41_method_12_code 5 = .ok (.iload_n 1, 1) := by decide +kernel
theorem d6_6 : decode jdk_41_method_12_code 6 = .ok (.if_icmp .gt 8, 3) := by decide +kernel
theorem d6_9 : decode jdk_41_method_12_code 9 = .ok (.iload_n 1, 1) := by decide +kernel
theorem d6_10 : decode jdk_41_method_12_code 10 = .ok (.iload_n 2, 1) := by decide +kernel
theorem d6_11 : decode jdk_41_method_12_code 11 = .ok (.if_icmp .le 11, 3) := by decide +kernel
theorem d6_14 : decode jdk_41_method_12_code 14 = .ok (.aload_n 3, 1) := by decide +kernel
theorem d6_15 : decode jdk_41_method_12_code 15 = .ok (.iload_n 0, 1) := by decide +kernel
theorem d6_16 : decode jdk_41_method_12_code 16 = .ok (.iload_n 1, 1) := by decide +kernel
theorem d6_17 : decode jdk_41_method_12_code 17 = .ok (.iload_n 2, 1) := by decide +kernel
theorem d6_18 : decode jdk_41_method_12_code 18 = .ok (.invokestatic 99, 3) := by decide +kernel
theorem d6_21 : decode jdk_41_method_12_code 21 = .ok (.athrow, 1) := by decide +kernel
theorem d6_22 : decode jdk_41_method_12_code 22 = .ok (.iload_n 0, 1) := by decide +kernel
theorem d6_23 : decode jdk_41_method_12_code 23 = .ok (.ireturn, 1) := by decide +kernel
theorem d7_0 : decode method_3_code 0 = .ok (.iload_n 3, 1) := by decide +kernel
theorem d7_1 : decode method_3_code 1 = .ok (.iload_n 2, 1) := by decide +kernel
theorem d7_2 : decode method_3_code 2 = .ok (.if_icmp .ge 27, 3) := by decide +kernel
theorem d7_5 : decode method_3_code 5 = .ok (.aload_n 0, 1) := by decide +kernel
theorem d7_6 : decode method_3_code 6 = .ok (.iload_n 1, 1) := by decide +kernel
theorem d7_7 : decode method_3_code 7 = .ok (.iload_n 3, 1) := by decide +kernel
theorem d7_8 : decode method_3_code 8 = .ok (.iadd, 1) := by decide +kernel
theorem d7_9 : decode method_3_code 9 = .ok (.baload, 1) := by decide +kernel
theorem d7_10 : decode method_3_code 10 = .ok (.istore 5, 2) := by decide +kernel
theorem d7_12 : decode method_3_code 12 = .ok (.iload 5, 2) := by decide +kernel
theorem d7_14 : decode method_3_code 14 = .ok (.ifCond .ge 11, 3) := by decide +kernel
theorem d7_17 : decode method_3_code 17 = .ok (.iload 5, 2) := by decide +kernel
theorem d7_19 : decode method_3_code 19 = .ok (.sipush 256, 3) := by decide +kernel
theorem d7_22 : decode method_3_code 22 = .ok (.iadd, 1) := by decide +kernel
theorem d7_23 : decode method_3_code 23 = .ok (.istore 5, 2) := by decide +kernel
theorem d7_25 : decode method_3_code 25 = .ok (.iload 5, 2) := by decide +kernel
theorem d7_27 : decode method_3_code 27 = .ok (.i2c, 1) := by decide +kernel
theorem d7_28 : decode method_3_code 28 = .ok (.ireturn, 1) := by decide +kernel
theorem d7_29 : decode method_3_code 29 = .ok (.iload 4, 2) := by decide +kernel
theorem d7_31 : decode method_3_code 31 = .ok (.ireturn, 1) := by decide +kernel
theorem pd_1 : parseMethodDescriptor "(III)I" = some ⟨[.int, .int, .int], some .int⟩ := by decide +kernel
theorem pd_2 : parseMethodDescriptor "(IIILjava/util/function/BiFunction;)I" = some ⟨[.int, .int, .int, (.object "java/util/function/BiFunction")], some .int⟩ := by decide +kernel
theorem pd_3 : parseMethodDescriptor "(II[C)Z" = some ⟨[.int, .int, (.array .char)], some .boolean⟩ := by decide +kernel
theorem pd_4 : parseMethodDescriptor "(JIIII)Z" = some ⟨[.long, .int, .int, .int, .int], some .boolean⟩ := by decide +kernel
theorem pd_5 : parseMethodDescriptor "([BI)V" = some ⟨[(.array .byte), .int], none⟩ := by decide +kernel
theorem pd_6 : parseMethodDescriptor "([BIIIC)C" = some ⟨[(.array .byte), .int, .int, .int, .char], some .char⟩ := by decide +kernel
theorem pn_0 : plainFor x = true := plainFor_of_name (by first | (simp [plainName, overriddenIn]; done) | decide +kernel)
theorem ef_0 (m : MethodId) (x0 : Int64) (x1 : Int32) (x2 : Int32) (x3 : Int32) (x4 : Int32) : entryFrame m #[(.long x0), (.int x1), (.int x2), (.int x3), (.int x4)] maxLocals = mkF m 0 #[.val (.long x0), .second, .val (.int x1), .val (.int x2), .val (.int x3), .val (.int x4), .unset, .unset, .unset, .unset, .unset, .unset, .unset, .unset, .unset] [] := by first | (simp [entryFrame, mkF, argsToLocals, Value.category, maxLocals]; done) | rfl
theorem pn_1 : plainFor (⟨"com/example/needle_in_text/needleintext/text/ByteText", "<init>", "([BI)V"⟩ : MethodName) = true := plainFor_of_name (by first | (simp [plainName, overriddenIn]; done) | decide +kernel)
theorem ef_1 (m : MethodId) (x0 : Addr) (x1 : Addr) (x2 : Int32) : entryFrame m #[(.ref x0), (.ref x1), (.int x2)] 3 = mkF m 0 #[.val (.ref x0), .val (.ref x1), .val (.int x2)] [] := by first | (simp [entryFrame, mkF, argsToLocals, Value.category]; done) | rfl
theorem pn_3 : plainFor (⟨"com/example/needle_in_text/needleintext/text/ByteText", "view", "([BI)V"⟩ : MethodName) = true := plainFor_of_name (by first | (simp [plainName, overriddenIn]; done) | decide +kernel)
theorem ef_3 (m : MethodId) (x0 : Addr) (x1 : Addr) (x2 : Int32) : entryFrame m #[(.ref x0), (.ref x1), (.int x2)] 3 = mkF m 0 #[.val (.ref x0), .val (.ref x1), .val (.int x2)] [] := by first | (simp [entryFrame, mkF, argsToLocals, Value.category]; done) | rfl
theorem pn_4 : plainFor (⟨"com/example/needle_in_text/needleintext/text/ByteText", "copySymbols", "(II[C)Z"⟩ : MethodName) = true := plainFor_of_name (by first | (simp [plainName, overriddenIn]; done) | decide +kernel)
theorem ef_4 (m : MethodId) (x0 : Addr) (x1 : Int32) (x2 : Int32) (x3 : Addr) : entryFrame m #[(.ref x0), (.int x1), (.int x2), (.ref x3)] 5 = mkF m 0 #[.val (.ref x0), .val (.int x1), .val (.int x2), .val (.ref x3), .unset] [] := by first | (simp [entryFrame, mkF, argsToLocals, Value.category]; done) | rfl
theorem pn_5 : plainFor (⟨"java/util/Objects", "checkFromToIndex", "(III)I"⟩ : MethodName) = true := plainFor_of_name (by first | (simp [plainName, overriddenIn]; done) | decide +kernel)
theorem ef_5 (m : MethodId) (x0 : Int32) (x1 : Int32) (x2 : Int32) : entryFrame m #[(.int x0), (.int x1), (.int x2)] 3 = mkF m 0 #[.val (.int x0), .val (.int x1), .val (.int x2)] [] := by first | (simp [entryFrame, mkF, argsToLocals, Value.category]; done) | rfl
theorem pn_6 : plainFor (⟨"jdk/internal/util/Preconditions", "checkFromToIndex", "(IIILjava/util/function/BiFunction;)I"⟩ : MethodName) = true := plainFor_of_name (by first | (simp [plainName, overriddenIn]; done) | decide +kernel)
theorem ef_6 (m : MethodId) (x0 : Int32) (x1 : Int32) (x2 : Int32) : entryFrame m #[(.int x0), (.int x1), (.int x2), .null] 4 = mkF m 0 #[.val (.int x0), .val (.int x1), .val (.int x2), .val .null] [] := by first | (simp [entryFrame, mkF, argsToLocals, Value.category]; done) | rfl
theorem pn_7 : plainFor (⟨"com/example/needle_in_text/needleintext/text/ByteTextCopySymbolsPinLaw", "expected", "([BIIIC)C"⟩ : MethodName) = true := plainFor_of_name (by first | (simp [plainName, overriddenIn]; done) | decide +kernel)
theorem ef_7 (m : MethodId) (x0 : Addr) (x1 : Int32) (x2 : Int32) (x3 : Int32) (x4 : Int32) : entryFrame m #[(.ref x0), (.int x1), (.int x2), (.int x3), (.int x4)] 6 = mkF m 0 #[.val (.ref x0), .val (.int x1), .val (.int x2), .val (.int x3), .val (.int x4), .unset] [] := by first | (simp [entryFrame, mkF, argsToLocals, Value.category]; done) | rfl
theorem own_all8 {P : Int8 → Prop} (h : ∀ n : Fin 256, P (.ofBitVec (.ofFin n))) (b : Int8) : P b := by
  have := h b.toBitVec.toFin
  simpa using this
theorem own_fin (x : Int32) (K : Nat) (h0 : 0 ≤ x.toInt) (h1 : x.toInt < K) : ∃ n : Nat, n < K ∧ x = Int32.ofInt (n : Int) :=
  ⟨x.toInt.toNat, by omega, by rw [Int.toNat_of_nonneg h0, Int32.ofInt_toInt]⟩
theorem own_lushr_nat (x : Int64) (q : Int32) (k : Nat) (hk : q.toBitVec.toNat % 64 = k) : (own_lushr x q).toBitVec.toNat = x.toBitVec.toNat / 2 ^ k := by
  show (x.toBitVec >>> ((q &&& 0x3f).toInt64.toBitVec % 64)).toNat = _
  rw [BitVec.ushiftRight_eq', BitVec.toNat_ushiftRight, Nat.shiftRight_eq_div_pow, BitVec.toNat_umod, (sm64 q k hk).1, BitVec.toNat_ofNat]
  congr 2
  have := (sm64 q k hk).2
  show k % 2 ^ 64 % 64 = k
  omega
theorem own_l0 (x : Int64) : x = 0 ↔ x.toBitVec.toNat = 0 := ⟨fun h => by subst h; rfl, fun h => Int64.toBitVec_inj.mp (BitVec.eq_of_toNat_eq h)⟩
theorem own_shsh (x : Int64) (a b c : Int32) (i j : Nat) (ha : a.toBitVec.toNat % 64 = i) (hb : b.toBitVec.toNat % 64 = j) (hc : c.toBitVec.toNat % 64 = i + j) : own_lushr (own_lushr x a) b = own_lushr x c := by
  apply Int64.toBitVec_inj.mp
  apply BitVec.eq_of_toNat_eq
  rw [own_lushr_nat _ b j hb, own_lushr_nat x a i ha, own_lushr_nat x c _ hc, Nat.div_div_eq_div_mul, Nat.pow_add]
theorem own_shz (x : Int64) (a b : Int32) (i j : Nat) (ha : a.toBitVec.toNat % 64 = i) (hb : b.toBitVec.toNat % 64 = j) (h : 64 ≤ i + j) : own_lushr (own_lushr x a) b = 0 := by
  rw [own_l0, own_lushr_nat _ b j hb, own_lushr_nat x a i ha, Nat.div_div_eq_div_mul, ← Nat.pow_add]
  exact Nat.div_eq_of_lt (Nat.lt_of_lt_of_le x.toBitVec.isLt (Nat.pow_le_pow_right (by decide) h))
theorem own_true {P : Prop} [Decidable P] (h : P) : ((if P then (1 : Int32) else (0 : Int32)) &&& 1) = 1 := by rw [if_pos h]; rfl
def own_Txt (Z : State) (h : Heap) (n0 : Nat) (o b : Addr) (len : Int32) (n : Nat) (f : Nat → Int32) : Prop :=
  Exa Z h o "com/example/needle_in_text/needleintext/text/ByteText" ∧ Fld Z h o "com/example/needle_in_text/needleintext/text/ByteText" "bytes" "[B" (.ref b) ∧ Fld Z h o "com/example/needle_in_text/needleintext/text/ByteText" "length" "I" (.int len) ∧ own_Arf Z h b .byte n (fun j => .int (f j)) ∧ o ≠ b ∧ n0 ≤ o ∧ n0 ≤ b
set_option maxRecDepth 65536 in
set_option maxHeartbeats 40000000 in
theorem met3 (l : Launch) (Z : State) (a0 : Array Value) (hw : ∀ d ∈ tables_1, d.before a0 Z = true) (x0 : Addr) (x1 : Addr) (x2 : Int32) (n : Nat) (f : Nat → Int32) (ub : Value) (ul : Value) (h0 : Heap) (n0 : Nat) (Z0 : n0 ≤ h0.size) (E : Exa Z h0 x0 "com/example/needle_in_text/needleintext/text/ByteText") (Fb : Fld Z h0 x0 "com/example/needle_in_text/needleintext/text/ByteText" "bytes" "[B" ub) (Fl : Fld Z h0 x0 "com/example/needle_in_text/needleintext/text/ByteText" "length" "I" ul) (A : own_Arf Z h0 x1 .byte n (fun j => .int (f j))) (ne : x0 ≠ x1) (go : n0 ≤ x0) (gb : n0 ≤ x1) :
    own_Met l Z (⟨"com/example/needle_in_text/needleintext/text/ByteText", "view", "([BI)V"⟩ : MethodName) prog_61_method_2_code 3 none { frames := 0, cells := 0, slots := 0, locals := 0 } #[(.ref x0), (.ref x1), (.int x2)] h0 (fun v h L => v = none ∧ Fr n0 L ∧ n0 ≤ h.size ∧ own_Txt Z h n0 x0 x1 x2 n f ∧ Keep h0 h [x0]) := by
  refine own_met pn_3 ?_
  intro p e s m below meth c T0 X0 hx hby hml hown hZ e0 hret hlk hnm
  rw [ef_3 m x0 x1 x2]
  have N0 := Fr.nil n0
  show own_Fin _ _ _ _ _ _ _ (T0.setTop (mkF m 0 #[.val (.ref x0), .val (.ref x1), .val (.int x2)] []))
  refine own_of (fun _ kk => XS.aloadN X0.here hx rfl (hb hby d3_0) rfl rfl kk) ?_
  show own_Fin _ _ _ _ _ _ _ (T0.setTop (mkF m 1 #[.val (.ref x0), .val (.ref x1), .val (.int x2)] [(.ref x0)]))
  refine own_of (fun _ kk => XS.aloadN X0.here hx rfl (hb hby d3_1) rfl rfl kk) ?_
  show own_Fin _ _ _ _ _ _ _ (T0.setTop (mkF m 2 #[.val (.ref x0), .val (.ref x1), .val (.int x2)] [(.ref x1), (.ref x0)]))
  refine own_putF X0 hx hZ hown (hw _ (List.mem_of_getElem? (i := 17) rfl)) e0 Fb E (Or.inl (hw _ (List.mem_of_getElem? (i := 18) rfl))) (hw _ (List.mem_of_getElem? (i := 4) rfl)) (ty := (.array .byte)) (by decide) rfl rfl N0 go (hb hby d3_2) ?_
  intro T1 h1 l1 X1 N1 e1 W1
  have ZW1 : n0 ≤ h1.size := by rw [Wr.size W1]; exact Z0
  replace E := E.wr W1
  replace Fb := Fb.same W1
  replace Fl := Fl.other W1 (Or.inr (slot_ne (Or.inl (hw _ (List.mem_of_getElem? (i := 20) rfl))) (Or.inl (hw _ (List.mem_of_getElem? (i := 18) rfl))) (by decide) (t := .int) (t' := (.array .byte)) (by decide) (by decide)))
  replace A := A.other W1 (Ne.symm ne)
  show own_Fin _ _ _ _ _ _ _ (T1.setTop (mkF m 5 #[.val (.ref x0), .val (.ref x1), .val (.int x2)] []))
  refine own_of (fun _ kk => XS.aloadN X1.here hx rfl (hb hby d3_5) rfl rfl kk) ?_
  show own_Fin _ _ _ _ _ _ _ (T1.setTop (mkF m 6 #[.val (.ref x0), .val (.ref x1), .val (.int x2)] [(.ref x0)]))
  refine own_of (fun _ kk => XS.iloadN X1.here hx rfl (hb hby d3_6) rfl kk) ?_
  show own_Fin _ _ _ _ _ _ _ (T1.setTop (mkF m 7 #[.val (.ref x0), .val (.ref x1), .val (.int x2)] [(.int x2), (.ref x0)]))
  refine own_putF X1 hx hZ hown (hw _ (List.mem_of_getElem? (i := 19) rfl)) e1 Fl E (Or.inl (hw _ (List.mem_of_getElem? (i := 20) rfl))) (hw _ (List.mem_of_getElem? (i := 4) rfl)) (ty := .int) (by decide) rfl rfl N1 go (hb hby d3_7) ?_
  intro T2 h2 l2 X2 N2 e2 W2
  have ZW2 : n0 ≤ h2.size := by rw [Wr.size W2]; exact ZW1
  replace E := E.wr W2
  replace Fb := Fb.other W2 (Or.inr (slot_ne (Or.inl (hw _ (List.mem_of_getElem? (i := 18) rfl))) (Or.inl (hw _ (List.mem_of_getElem? (i := 20) rfl))) (by decide) (t := (.array .byte)) (t' := .int) (by decide) (by decide)))
  replace Fl := Fl.same W2
  replace A := A.other W2 (Ne.symm ne)
  show own_Fin _ _ _ _ _ _ _ (T2.setTop (mkF m 10 #[.val (.ref x0), .val (.ref x1), .val (.int x2)] []))
  exact own_retV X2 hx hlk e2 hret (hb hby d3_10) (by decide) (by decide) ⟨rfl, N2, ZW2, ⟨E, Fb, Fl, A, ne, go, gb⟩, (Keep.of_wr W1).trans (Keep.of_wr W2) (fun x hx => Or.inl hx)⟩
set_option maxRecDepth 65536 in
set_option maxHeartbeats 40000000 in
theorem met1 (l : Launch) (Z : State) (a0 : Array Value) (hw : ∀ d ∈ tables_1, d.before a0 Z = true) (x0 : Addr) (x1 : Addr) (x2 : Int32) (n : Nat) (f : Nat → Int32) (h0 : Heap) (n0 : Nat) (Z0 : n0 ≤ h0.size) (E : Exa Z h0 x0 "com/example/needle_in_text/needleintext/text/ByteText") (Fb : Fld Z h0 x0 "com/example/needle_in_text/needleintext/text/ByteText" "bytes" "[B" .null) (Fl : Fld Z h0 x0 "com/example/needle_in_text/needleintext/text/ByteText" "length" "I" (.int (0 : Int32))) (A : own_Arf Z h0 x1 .byte n (fun j => .int (f j))) (ne : x0 ≠ x1) (go : n0 ≤ x0) (gb : n0 ≤ x1) :
    own_Met l Z (⟨"com/example/needle_in_text/needleintext/text/ByteText", "<init>", "([BI)V"⟩ : MethodName) prog_61_method_1_code 3 none { frames := 1, cells := 0, slots := 0, locals := 14 } #[(.ref x0), (.ref x1), (.int x2)] h0 (fun v h L => v = none ∧ Fr n0 L ∧ n0 ≤ h.size ∧ own_Txt Z h n0 x0 x1 x2 n f ∧ Keep h0 h [x0]) := by
  refine own_met pn_1 ?_
  intro p e s m below meth c T0 X0 hx hby hml hown hZ e0 hret hlk hnm
  rw [ef_1 m x0 x1 x2]
  have N0 := Fr.nil n0
  show own_Fin _ _ _ _ _ _ _ (T0.setTop (mkF m 0 #[.val (.ref x0), .val (.ref x1), .val (.int x2)] []))
  refine own_of (fun _ kk => XS.aloadN X0.here hx rfl (hb hby d1_0) rfl rfl kk) ?_
  show own_Fin _ _ _ _ _ _ _ (T0.setTop (mkF m 1 #[.val (.ref x0), .val (.ref x1), .val (.int x2)] [(.ref x0)]))
  refine own_initO X0 hx hZ hown (hw _ (List.mem_of_getElem? (i := 9) rfl)) (hw _ (List.mem_of_getElem? (i := 10) rfl)) (hw _ (List.mem_of_getElem? (i := 11) rfl)) e0 (by rw [hml]; rfl) (hb hby d1_1) (by decide) (W := 0) (Nat.le_of_eq rfl) (by decide) ?_
  intro T1 X1 e1
  show own_Fin _ _ _ _ _ _ _ (T1.setTop (mkF m 4 #[.val (.ref x0), .val (.ref x1), .val (.int x2)] []))
  refine own_of (fun _ kk => XS.aloadN X1.here hx rfl (hb hby d1_4) rfl rfl kk) ?_
  show own_Fin _ _ _ _ _ _ _ (T1.setTop (mkF m 5 #[.val (.ref x0), .val (.ref x1), .val (.int x2)] [(.ref x0)]))
  refine own_of (fun _ kk => XS.aloadN X1.here hx rfl (hb hby d1_5) rfl rfl kk) ?_
  show own_Fin _ _ _ _ _ _ _ (T1.setTop (mkF m 6 #[.val (.ref x0), .val (.ref x1), .val (.int x2)] [(.ref x1), (.ref x0)]))
  refine own_of (fun _ kk => XS.iloadN X1.here hx rfl (hb hby d1_6) rfl kk) ?_
  show own_Fin _ _ _ _ _ _ _ (T1.setTop (mkF m 7 #[.val (.ref x0), .val (.ref x1), .val (.int x2)] [(.int x2), (.ref x1), (.ref x0)]))
  refine own_callV X1 hx hZ (y := (⟨"com/example/needle_in_text/needleintext/text/ByteText", "view", "([BI)V"⟩ : MethodName)) (z := (⟨"com/example/needle_in_text/needleintext/text/ByteText", "view", "([BI)V"⟩ : MethodName)) hown (hw _ (List.mem_of_getElem? (i := 12) rfl)) (hw _ (List.mem_of_getElem? (i := 13) rfl)) (notFace_of_selects (args := #[]) (mvT hZ (hw _ (List.mem_of_getElem? (i := 15) rfl)))) (hw _ (List.mem_of_getElem? (i := 15) rfl)) (hw _ (List.mem_of_getElem? (i := 14) rfl)) (hw _ (List.mem_of_getElem? (i := 5) rfl)) (hw _ (List.mem_of_getElem? (i := 16) rfl)) (by decide) e1 E (argsL := [(.ref x1), (.int x2)]) (met3 l Z a0 hw x0 x1 x2 n f .null (.int (0 : Int32)) h0 n0 Z0 E Fb Fl A ne go gb) (W := 0) (by decide) (by decide) (by decide) (by decide) (by rw [hml]; rfl) pd_5 rfl (rest := []) rfl (Nat.le_of_eq rfl) (hb hby d1_7) ?_
  intro v2 T2 h2 L2 X2 e2 q2
  obtain ⟨rfl, N2q, Z2, O2, K2⟩ := q2
  have N2 := Fr.app N0 N2q
  show own_Fin _ _ _ _ _ _ _ (T2.setTop (mkF m 10 #[.val (.ref x0), .val (.ref x1), .val (.int x2)] []))
  exact own_retV X2 hx hlk e2 hret (hb hby d1_10) (by decide) (by decide) ⟨rfl, N2, Z2, O2, K2⟩
set_option maxRecDepth 65536 in
set_option maxHeartbeats 40000000 in
theorem met6 (l : Launch) (Z : State) (a0 : Array Value) (hw : ∀ d ∈ tables_1, d.before a0 Z = true) (x0 : Int32) (x1 : Int32) (x2 : Int32) (h0 : Heap) (n0 : Nat) (Z0 : n0 ≤ h0.size) (h1 : ¬ x0 < (0 : Int32)) (h2 : ¬ x1 < x0) (h3 : ¬ x2 < x1) :
    own_Met l Z (⟨"jdk/internal/util/Preconditions", "checkFromToIndex", "(IIILjava/util/function/BiFunction;)I"⟩ : MethodName) jdk_41_method_12_code 4 (some .int) { frames := 0, cells := 0, slots := 0, locals := 0 } #[(.int x0), (.int x1), (.int x2), .null] h0 (fun v h L => own_Pure (.int x0) h0 v h L) := by
  refine own_met pn_6 ?_
  intro p e s m below meth c T0 X0 hx hby hml hown hZ e0 hret hlk hnm
  rw [ef_6 m x0 x1 x2]
  have N0 := Fr.nil n0
  show own_Fin _ _ _ _ _ _ _ (T0.setTop (mkF m 0 #[.val (.int x0), .val (.int x1), .val (.int x2), .val .null] []))
  refine own_of (fun _ kk => XS.iloadN X0.here hx rfl (hb hby d6_0) rfl kk) ?_
  show own_Fin _ _ _ _ _ _ _ (T0.setTop (mkF m 1 #[.val (.int x0), .val (.int x1), .val (.int x2), .val .null] [(.int x0)]))
  refine own_of (fun _ kk => XS.ifNo X0.here hx rfl (hb hby d6_1) rfl ((if0 _ _).trans (flt h1).1) kk) ?_
  show own_Fin _ _ _ _ _ _ _ (T0.setTop (mkF m 4 #[.val (.int x0), .val (.int x1), .val (.int x2), .val .null] []))
  refine own_of (fun _ kk => XS.iloadN X0.here hx rfl (hb hby d6_4) rfl kk) ?_
  show own_Fin _ _ _ _ _ _ _ (T0.setTop (mkF m 5 #[.val (.int x0), .val (.int x1), .val (.int x2), .val .null] [(.int x0)]))
  refine own_of (fun _ kk => XS.iloadN X0.here hx rfl (hb hby d6_5) rfl kk) ?_
  show own_Fin _ _ _ _ _ _ _ (T0.setTop (mkF m 6 #[.val (.int x0), .val (.int x1), .val (.int x2), .val .null] [(.int x1), (.int x0)]))
  refine own_of (fun _ kk => XS.icmpNo X0.here hx rfl (hb hby d6_6) rfl (flt h2).2.2.1 kk) ?_
  show own_Fin _ _ _ _ _ _ _ (T0.setTop (mkF m 9 #[.val (.int x0), .val (.int x1), .val (.int x2), .val .null] []))
  refine own_of (fun _ kk => XS.iloadN X0.here hx rfl (hb hby d6_9) rfl kk) ?_
  show own_Fin _ _ _ _ _ _ _ (T0.setTop (mkF m 10 #[.val (.int x0), .val (.int x1), .val (.int x2), .val .null] [(.int x1)]))
  refine own_of (fun _ kk => XS.iloadN X0.here hx rfl (hb hby d6_10) rfl kk) ?_
  show own_Fin _ _ _ _ _ _ _ (T0.setTop (mkF m 11 #[.val (.int x0), .val (.int x1), .val (.int x2), .val .null] [(.int x2), (.int x1)]))
  refine own_of (fun _ kk => XS.icmpYes X0.here hx rfl (pc0 := 11) (pc' := 22) rfl (hb hby d6_11) rfl (flt h3).2.2.2 (by decide) (by decide) kk) ?_
  show own_Fin _ _ _ _ _ _ _ (T0.setTop (mkF m 22 #[.val (.int x0), .val (.int x1), .val (.int x2), .val .null] []))
  refine own_of (fun _ kk => XS.iloadN X0.here hx rfl (hb hby d6_22) rfl kk) ?_
  show own_Fin _ _ _ _ _ _ _ (T0.setTop (mkF m 23 #[.val (.int x0), .val (.int x1), .val (.int x2), .val .null] [(.int x0)]))
  exact own_retI X0 hx hlk e0 hret (hb hby d6_23) (by decide) (by decide) ⟨rfl, rfl, rfl⟩
set_option maxRecDepth 65536 in
set_option maxHeartbeats 40000000 in
theorem met5 (l : Launch) (Z : State) (a0 : Array Value) (hw : ∀ d ∈ tables_1, d.before a0 Z = true) (x0 : Int32) (x1 : Int32) (x2 : Int32) (h0 : Heap) (n0 : Nat) (Z0 : n0 ≤ h0.size) (h1 : ¬ x0 < (0 : Int32)) (h2 : ¬ x1 < x0) (h3 : ¬ x2 < x1) :
    own_Met l Z (⟨"java/util/Objects", "checkFromToIndex", "(III)I"⟩ : MethodName) jdk_31_method_18_code 3 (some .int) { frames := 1, cells := 0, slots := 0, locals := 15 } #[(.int x0), (.int x1), (.int x2)] h0 (fun v h L => own_Pure (.int x0) h0 v h L) := by
  refine own_met pn_5 ?_
  intro p e s m below meth c T0 X0 hx hby hml hown hZ e0 hret hlk hnm
  rw [ef_5 m x0 x1 x2]
  have N0 := Fr.nil n0
  show own_Fin _ _ _ _ _ _ _ (T0.setTop (mkF m 0 #[.val (.int x0), .val (.int x1), .val (.int x2)] []))
  refine own_of (fun _ kk => XS.iloadN X0.here hx rfl (hb hby d5_0) rfl kk) ?_
  show own_Fin _ _ _ _ _ _ _ (T0.setTop (mkF m 1 #[.val (.int x0), .val (.int x1), .val (.int x2)] [(.int x0)]))
  refine own_of (fun _ kk => XS.iloadN X0.here hx rfl (hb hby d5_1) rfl kk) ?_
  show own_Fin _ _ _ _ _ _ _ (T0.setTop (mkF m 2 #[.val (.int x0), .val (.int x1), .val (.int x2)] [(.int x1), (.int x0)]))
  refine own_of (fun _ kk => XS.iloadN X0.here hx rfl (hb hby d5_2) rfl kk) ?_
  show own_Fin _ _ _ _ _ _ _ (T0.setTop (mkF m 3 #[.val (.int x0), .val (.int x1), .val (.int x2)] [(.int x2), (.int x1), (.int x0)]))
  refine own_of (fun _ kk => XS.aconstNull X0.here hx rfl (hb hby d5_3) kk) ?_
  show own_Fin _ _ _ _ _ _ _ (T0.setTop (mkF m 4 #[.val (.int x0), .val (.int x1), .val (.int x2)] [.null, (.int x2), (.int x1), (.int x0)]))
  refine own_callS X0 hx hZ hown (hw _ (List.mem_of_getElem? (i := 30) rfl)) (hw _ (List.mem_of_getElem? (i := 31) rfl)) (hw _ (List.mem_of_getElem? (i := 32) rfl)) (hw _ (List.mem_of_getElem? (i := 33) rfl)) (by decide) e0 (argsL := [(.int x0), (.int x1), (.int x2), .null]) (met6 l Z a0 hw x0 x1 x2 h0 n0 Z0 h1 h2 h3) (W := 0) (by decide) (by decide) (by decide) (by decide) (by rw [hml]; rfl) pd_2 rfl (rest := []) rfl (Nat.le_of_eq rfl) (hb hby d5_4) ?_
  intro v1 T1 h1 L1 X1 e1 q1
  obtain ⟨rfl, qh1, rfl⟩ := q1
  rw [qh1] at e1
  have N1 := Fr.app N0 (Fr.nil n0)
  show own_Fin _ _ _ _ _ _ _ (T1.setTop (mkF m 7 #[.val (.int x0), .val (.int x1), .val (.int x2)] [(.int x0)]))
  exact own_retI X1 hx hlk e1 hret (hb hby d5_7) (by decide) (by decide) ⟨rfl, rfl, rfl⟩
def own_c (fb fs : Nat → Int32) (F n j : Nat) : Int32 := if j < n then own_i2c (own_i2c (fb (F + j) &&& 255)) else fs j
theorem own_c0 (fb fs : Nat → Int32) (F j : Nat) : fs j = own_c fb fs F 0 j := by unfold own_c; rw [if_neg (by omega)]
theorem own_cstep (fb fs : Nat → Int32) (F i j : Nat) : (if j = i then (Value.int (own_i2c (own_i2c (fb (F + i) &&& (255 : Int32))))) else (fun j => Value.int (own_c fb fs F i j)) j) = .int (own_c fb fs F (i + 1) j) := by
  dsimp only
  unfold own_c
  by_cases h : j = i
  · subst h; rw [if_pos rfl, if_pos (by omega)]
  · rw [if_neg h]
    by_cases h2 : j < i
    · rw [if_pos h2, if_pos (by omega)]
    · rw [if_neg h2, if_neg (by omega)]
theorem own_p1 {p : Int32} {a i : Nat} (hp : p.toInt = ((a + i : Nat) : Int)) (h : a + i < 100) : (p + 1).toInt = ((a + (i + 1) : Nat) : Int) := by
  have h1 := c_iadd p 1
  have h2 := rng32 (p + 1)
  have k : (1 : Int32).toInt = 1 := by decide
  omega
theorem own_d {p q : Int32} {F i : Nat} (hq : q.toInt = (F : Int)) (hp : p.toInt = ((F + i : Nat) : Int)) (h : F + i < 100) : (p - q).toInt = (i : Int) := by
  have h1 := c_isub p q
  have h2 := rng32 (p - q)
  omega
set_option maxRecDepth 65536 in
set_option maxHeartbeats 40000000 in
theorem own_loop (l : Launch) (Z : State) (a0 : Array Value) (hw : ∀ d ∈ tables_1, d.before a0 Z = true) (x0 : Addr) (x1 : Int32) (x2 : Int32) (x3 : Addr) (b : Addr) (len : Int32) (nb : Nat) (fb : Nat → Int32) (fs : Nat → Int32) (F : Nat) (n : Nat) (n0 : Nat) {p : Program} {e : Env} {s : State} {m : MethodId} {args : Array Value} {below : List Frame} {meth : Method} {c : Code} (hx : p.tables.exec = Jvm.exec) (hby : c.code = prog_61_method_6_code) (hml : c.maxLocals = 5) (hown : s.vm.findClass "com/example/needle_in_text/needleintext/text/ByteText" = some m.cls) (hZ : Z.Warmed39 s.vm) (hret : meth.sig.returnType = some .boolean) (hlk : meth.locks = false) (hF : x1.toInt = (F : Int)) (hT : x2.toInt = ((F + n : Nat) : Int)) (hnb : F + n ≤ nb) (hn6 : n ≤ 6) (hF6 : F ≤ 6) (ne : x0 ≠ b) (ne1 : x0 ≠ x3) (ne2 : b ≠ x3) (go : n0 ≤ x0) (gb : n0 ≤ b) (gc : n0 ≤ x3) :
    ∀ (d : Nat) (i : Nat) (p4 : Int32) (T0 : State) (locs : List Loc) (h0 : Heap), Stand p l e ({ frames := 2, cells := 0, slots := 0, locals := 29 } : Room) s m args below meth c T0 locs 0 0 → Fr n0 locs → n0 ≤ h0.size → T0.heap = h0 → (i + d = n) → (p4.toInt = ((F + i : Nat) : Int)) → (Exa Z h0 x0 "com/example/needle_in_text/needleintext/text/ByteText") → (Fld Z h0 x0 "com/example/needle_in_text/needleintext/text/ByteText" "bytes" "[B" (.ref b)) → (Fld Z h0 x0 "com/example/needle_in_text/needleintext/text/ByteText" "length" "I" (.int len)) → (own_Arf Z h0 b .byte nb (fun j => .int (fb j))) → (own_Arf Z h0 x3 .char 6 (fun j => .int (own_c fb fs F i j))) → own_Fin p e below s 0 0 (fun v h L => v = some (.int 0) ∧ Fr n0 L ∧ n0 ≤ h.size ∧ own_Txt Z h n0 x0 b len nb fb ∧ own_Arf Z h x3 .char 6 (fun j => .int (own_c fb fs F n j))) (T0.setTop (mkF m 13 #[.val (.ref x0), .val (.int x1), .val (.int x2), .val (.ref x3), .val (.int p4)] [])) := by
  intro d
  induction d with
  | zero =>
    intro i p4 T0 locs h0 X0 N0 Z0 e0 hi hp E Fb Fl A Cc
    obtain rfl : i = n := by omega
    show own_Fin _ _ _ _ _ _ _ (T0.setTop (mkF m 13 #[.val (.ref x0), .val (.int x1), .val (.int x2), .val (.ref x3), .val (.int p4)] []))
    refine own_of (fun _ kk => XS.iload X0.here hx rfl (hb hby d4_13) rfl kk) ?_
    show own_Fin _ _ _ _ _ _ _ (T0.setTop (mkF m 15 #[.val (.ref x0), .val (.int x1), .val (.int x2), .val (.ref x3), .val (.int p4)] [(.int p4)]))
    refine own_of (fun _ kk => XS.iloadN X0.here hx rfl (hb hby d4_15) rfl kk) ?_
    show own_Fin _ _ _ _ _ _ _ (T0.setTop (mkF m 16 #[.val (.ref x0), .val (.int x1), .val (.int x2), .val (.ref x3), .val (.int p4)] [(.int x2), (.int p4)]))
    refine own_of (fun _ kk => XS.icmpYes X0.here hx rfl (pc0 := 16) (pc' := 43) rfl (hb hby d4_16) rfl (flt (by rw [Int32.lt_iff_toInt_lt]; omega)).2.1 (by decide) (by decide) kk) ?_
    show own_Fin _ _ _ _ _ _ _ (T0.setTop (mkF m 43 #[.val (.ref x0), .val (.int x1), .val (.int x2), .val (.ref x3), .val (.int p4)] []))
    refine own_of (fun _ kk => XS.iconst X0.here hx rfl (hb hby d4_43) kk) ?_
    show own_Fin _ _ _ _ _ _ _ (T0.setTop (mkF m 44 #[.val (.ref x0), .val (.int x1), .val (.int x2), .val (.ref x3), .val (.int p4)] [(.int (0 : Int32))]))
    exact own_retN X0 hx hlk e0 (t := .boolean) hret (by simp) (hb hby d4_44) (by decide) (by decide) (z' := (0 : Int32)) (by decide) ⟨rfl, N0, Z0, ⟨E, Fb, Fl, A, ne, go, gb⟩, Cc⟩
  | succ d ih =>
    intro i p4 T0 locs h0 X0 N0 Z0 e0 hi hp E Fb Fl A Cc
    show own_Fin _ _ _ _ _ _ _ (T0.setTop (mkF m 13 #[.val (.ref x0), .val (.int x1), .val (.int x2), .val (.ref x3), .val (.int p4)] []))
    refine own_of (fun _ kk => XS.iload X0.here hx rfl (hb hby d4_13) rfl kk) ?_
    show own_Fin _ _ _ _ _ _ _ (T0.setTop (mkF m 15 #[.val (.ref x0), .val (.int x1), .val (.int x2), .val (.ref x3), .val (.int p4)] [(.int p4)]))
    refine own_of (fun _ kk => XS.iloadN X0.here hx rfl (hb hby d4_15) rfl kk) ?_
    show own_Fin _ _ _ _ _ _ _ (T0.setTop (mkF m 16 #[.val (.ref x0), .val (.int x1), .val (.int x2), .val (.ref x3), .val (.int p4)] [(.int x2), (.int p4)]))
    refine own_of (fun _ kk => XS.icmpNo X0.here hx rfl (hb hby d4_16) rfl (tlt (by rw [Int32.lt_iff_toInt_lt]; omega)).2.1 kk) ?_
    show own_Fin _ _ _ _ _ _ _ (T0.setTop (mkF m 19 #[.val (.ref x0), .val (.int x1), .val (.int x2), .val (.ref x3), .val (.int p4)] []))
    refine own_of (fun _ kk => XS.aloadN X0.here hx rfl (hb hby d4_19) rfl rfl kk) ?_
    show own_Fin _ _ _ _ _ _ _ (T0.setTop (mkF m 20 #[.val (.ref x0), .val (.int x1), .val (.int x2), .val (.ref x3), .val (.int p4)] [(.ref x3)]))
    refine own_of (fun _ kk => XS.iload X0.here hx rfl (hb hby d4_20) rfl kk) ?_
    show own_Fin _ _ _ _ _ _ _ (T0.setTop (mkF m 22 #[.val (.ref x0), .val (.int x1), .val (.int x2), .val (.ref x3), .val (.int p4)] [(.int p4), (.ref x3)]))
    refine own_of (fun _ kk => XS.iloadN X0.here hx rfl (hb hby d4_22) rfl kk) ?_
    show own_Fin _ _ _ _ _ _ _ (T0.setTop (mkF m 23 #[.val (.ref x0), .val (.int x1), .val (.int x2), .val (.ref x3), .val (.int p4)] [(.int x1), (.int p4), (.ref x3)]))
    refine own_of (fun _ kk => XS.isub X0.here hx rfl (hb hby d4_23) rfl kk) ?_
    show own_Fin _ _ _ _ _ _ _ (T0.setTop (mkF m 24 #[.val (.ref x0), .val (.int x1), .val (.int x2), .val (.ref x3), .val (.int p4)] [(.int (p4 - x1)), (.ref x3)]))
    refine own_of (fun _ kk => XS.aloadN X0.here hx rfl (hb hby d4_24) rfl rfl kk) ?_
    show own_Fin _ _ _ _ _ _ _ (T0.setTop (mkF m 25 #[.val (.ref x0), .val (.int x1), .val (.int x2), .val (.ref x3), .val (.int p4)] [(.ref x0), (.int (p4 - x1)), (.ref x3)]))
    refine own_getF X0 hx hZ hown (hw _ (List.mem_of_getElem? (i := 17) rfl)) e0 Fb (hb hby d4_25) ?_
    intro T1 X1 e1
    show own_Fin _ _ _ _ _ _ _ (T1.setTop (mkF m 28 #[.val (.ref x0), .val (.int x1), .val (.int x2), .val (.ref x3), .val (.int p4)] [(.ref b), (.int (p4 - x1)), (.ref x3)]))
    refine own_of (fun _ kk => XS.iload X1.here hx rfl (hb hby d4_28) rfl kk) ?_
    show own_Fin _ _ _ _ _ _ _ (T1.setTop (mkF m 30 #[.val (.ref x0), .val (.int x1), .val (.int x2), .val (.ref x3), .val (.int p4)] [(.int p4), (.ref b), (.int (p4 - x1)), (.ref x3)]))
    refine own_baload X1 hx hZ e1 A (i := (F + i)) hp (by omega) (v := (.int (fb (F + i)))) rfl (hb hby d4_30) ?_
    show own_Fin _ _ _ _ _ _ _ (T1.setTop (mkF m 31 #[.val (.ref x0), .val (.int x1), .val (.int x2), .val (.ref x3), .val (.int p4)] [(.int (fb (F + i))), (.int (p4 - x1)), (.ref x3)]))
    refine own_of (fun _ kk => XS.sipush X1.here hx rfl (hb hby d4_31) kk) ?_
    show own_Fin _ _ _ _ _ _ _ (T1.setTop (mkF m 34 #[.val (.ref x0), .val (.int x1), .val (.int x2), .val (.ref x3), .val (.int p4)] [(.int (255 : Int32)), (.int (fb (F + i))), (.int (p4 - x1)), (.ref x3)]))
    refine own_of (fun _ kk => XS.iand X1.here hx rfl (hb hby d4_34) rfl kk) ?_
    show own_Fin _ _ _ _ _ _ _ (T1.setTop (mkF m 35 #[.val (.ref x0), .val (.int x1), .val (.int x2), .val (.ref x3), .val (.int p4)] [(.int ((fb (F + i)) &&& (255 : Int32))), (.int (p4 - x1)), (.ref x3)]))
    refine own_of (fun _ kk => XS.i2c X1.here hx rfl (hb hby d4_35) rfl kk) ?_
    show own_Fin _ _ _ _ _ _ _ (T1.setTop (mkF m 36 #[.val (.ref x0), .val (.int x1), .val (.int x2), .val (.ref x3), .val (.int p4)] [(.int (own_i2c ((fb (F + i)) &&& (255 : Int32)))), (.int (p4 - x1)), (.ref x3)]))
    refine own_castore X1 hx hZ e1 Cc N0 gc (i := i) (own_d hF hp (by omega)) (by omega) (hb hby d4_36) ?_
    intro T2 h2 l2 X2 N2 e2 W2 A2
    replace A2 : own_Arf Z h2 x3 .char 6 (fun j => if j = i then (.int (own_i2c (own_i2c ((fb (F + i)) &&& (255 : Int32))))) else (fun j => .int (own_c fb fs F i j)) j) := A2
    have ZW2 : n0 ≤ h2.size := by rw [Wr.size W2]; exact Z0
    replace E := E.wr W2
    replace Fb := Fb.other W2 (Or.inl ne1)
    replace Fl := Fl.other W2 (Or.inl ne1)
    replace A := A.other W2 ne2
    show own_Fin _ _ _ _ _ _ _ (T2.setTop (mkF m 37 #[.val (.ref x0), .val (.int x1), .val (.int x2), .val (.ref x3), .val (.int p4)] []))
    refine own_of (fun _ kk => XS.iinc X2.here hx rfl (hb hby d4_37) rfl (l' := #[.val (.ref x0), .val (.int x1), .val (.int x2), .val (.ref x3), .val (.int (p4 + (1 : Int32)))]) rfl kk) ?_
    show own_Fin _ _ _ _ _ _ _ (T2.setTop (mkF m 40 #[.val (.ref x0), .val (.int x1), .val (.int x2), .val (.ref x3), .val (.int (p4 + (1 : Int32)))] []))
    refine own_of (fun _ kk => XS.goto X2.here hx rfl (pc0 := 40) (pc' := 13) rfl (hb hby d4_40) (by decide) (by decide) kk) ?_
    show own_Fin _ _ _ _ _ _ _ (T2.setTop (mkF m 13 #[.val (.ref x0), .val (.int x1), .val (.int x2), .val (.ref x3), .val (.int (p4 + (1 : Int32)))] []))
    exact ih (i + 1) (p4 + 1) T2 _ h2 X2 N2 ZW2 e2 (by omega) (own_p1 hp (by omega)) E Fb Fl A (A2.congr fun j _ => own_cstep fb fs F i j)
set_option maxRecDepth 65536 in
set_option maxHeartbeats 40000000 in
theorem met4 (l : Launch) (Z : State) (a0 : Array Value) (hw : ∀ d ∈ tables_1, d.before a0 Z = true) (x0 : Addr) (x1 : Int32) (x2 : Int32) (x3 : Addr) (b : Addr) (len : Int32) (nb : Nat) (fb : Nat → Int32) (fs : Nat → Int32) (F : Nat) (n : Nat) (h0 : Heap) (n0 : Nat) (Z0 : n0 ≤ h0.size) (hF : x1.toInt = (F : Int)) (hT : x2.toInt = ((F + n : Nat) : Int)) (hnb : F + n ≤ nb) (hn6 : n ≤ 6) (hF6 : F ≤ 6) (ne : x0 ≠ b) (ne1 : x0 ≠ x3) (ne2 : b ≠ x3) (go : n0 ≤ x0) (gb : n0 ≤ b) (gc : n0 ≤ x3) (h1 : ¬ x1 < (0 : Int32)) (h2 : ¬ x2 < x1) (h3 : ¬ len < x2) (O : own_Txt Z h0 n0 x0 b len nb fb) (Cc : own_Arf Z h0 x3 .char 6 (fun j => .int (fs j))) :
    own_Met l Z (⟨"com/example/needle_in_text/needleintext/text/ByteText", "copySymbols", "(II[C)Z"⟩ : MethodName) prog_61_method_6_code 5 (some .boolean) { frames := 2, cells := 0, slots := 0, locals := 29 } #[(.ref x0), (.int x1), (.int x2), (.ref x3)] h0 (fun v h L => v = some (.int 0) ∧ Fr n0 L ∧ n0 ≤ h.size ∧ own_Txt Z h n0 x0 b len nb fb ∧ own_Arf Z h x3 .char 6 (fun j => .int (own_c fb fs F n j))) := by
  refine own_met pn_4 ?_
  intro p e s m below meth c T0 X0 hx hby hml hown hZ e0 hret hlk hnm
  rw [ef_4 m x0 x1 x2 x3]
  have N0 := Fr.nil n0
  obtain ⟨E, Fb, Fl, A, -, -, -⟩ := O
  show own_Fin _ _ _ _ _ _ _ (T0.setTop (mkF m 0 #[.val (.ref x0), .val (.int x1), .val (.int x2), .val (.ref x3), .unset] []))
  refine own_of (fun _ kk => XS.iloadN X0.here hx rfl (hb hby d4_0) rfl kk) ?_
  show own_Fin _ _ _ _ _ _ _ (T0.setTop (mkF m 1 #[.val (.ref x0), .val (.int x1), .val (.int x2), .val (.ref x3), .unset] [(.int x1)]))
  refine own_of (fun _ kk => XS.iloadN X0.here hx rfl (hb hby d4_1) rfl kk) ?_
  show own_Fin _ _ _ _ _ _ _ (T0.setTop (mkF m 2 #[.val (.ref x0), .val (.int x1), .val (.int x2), .val (.ref x3), .unset] [(.int x2), (.int x1)]))
  refine own_of (fun _ kk => XS.aloadN X0.here hx rfl (hb hby d4_2) rfl rfl kk) ?_
  show own_Fin _ _ _ _ _ _ _ (T0.setTop (mkF m 3 #[.val (.ref x0), .val (.int x1), .val (.int x2), .val (.ref x3), .unset] [(.ref x0), (.int x2), (.int x1)]))
  refine own_getF X0 hx hZ hown (hw _ (List.mem_of_getElem? (i := 19) rfl)) e0 Fl (hb hby d4_3) ?_
  intro T1 X1 e1
  show own_Fin _ _ _ _ _ _ _ (T1.setTop (mkF m 6 #[.val (.ref x0), .val (.int x1), .val (.int x2), .val (.ref x3), .unset] [(.int len), (.int x2), (.int x1)]))
  refine own_callS X1 hx hZ hown (hw _ (List.mem_of_getElem? (i := 26) rfl)) (hw _ (List.mem_of_getElem? (i := 27) rfl)) (hw _ (List.mem_of_getElem? (i := 28) rfl)) (hw _ (List.mem_of_getElem? (i := 29) rfl)) (by decide) e1 (argsL := [(.int x1), (.int x2), (.int len)]) (met5 l Z a0 hw x1 x2 len h0 n0 Z0 h1 h2 h3) (W := 0) (by decide) (by decide) (by decide) (by decide) (by rw [hml]; rfl) pd_1 rfl (rest := []) rfl (Nat.le_of_eq rfl) (hb hby d4_6) ?_
  intro v2 T2 h2 L2 X2 e2 q2
  obtain ⟨rfl, qh2, rfl⟩ := q2
  rw [qh2] at e2
  have N2 := Fr.app N0 (Fr.nil n0)
  show own_Fin _ _ _ _ _ _ _ (T2.setTop (mkF m 9 #[.val (.ref x0), .val (.int x1), .val (.int x2), .val (.ref x3), .unset] [(.int x1)]))
  refine own_of (fun _ kk => XS.pop X2.here hx rfl (hb hby d4_9) rfl rfl kk) ?_
  show own_Fin _ _ _ _ _ _ _ (T2.setTop (mkF m 10 #[.val (.ref x0), .val (.int x1), .val (.int x2), .val (.ref x3), .unset] []))
  refine own_of (fun _ kk => XS.iloadN X2.here hx rfl (hb hby d4_10) rfl kk) ?_
  show own_Fin _ _ _ _ _ _ _ (T2.setTop (mkF m 11 #[.val (.ref x0), .val (.int x1), .val (.int x2), .val (.ref x3), .unset] [(.int x1)]))
  refine own_of (fun _ kk => XS.istore X2.here hx rfl (hb hby d4_11) rfl (l' := #[.val (.ref x0), .val (.int x1), .val (.int x2), .val (.ref x3), .val (.int x1)]) rfl kk) ?_
  show own_Fin _ _ _ _ _ _ _ (T2.setTop (mkF m 13 #[.val (.ref x0), .val (.int x1), .val (.int x2), .val (.ref x3), .val (.int x1)] []))
  exact own_loop l Z a0 hw x0 x1 x2 x3 b len nb fb fs F n n0 hx hby hml hown hZ hret hlk hF hT hnb hn6 hF6 ne ne1 ne2 go gb gc n 0 x1 T2 _ h0 X2 N2 Z0 e2 (by omega) (by simpa using hF) E Fb Fl A (Cc.congr fun j _ => congrArg Value.int (own_c0 fb fs F j))
def own_e (x2 x3 x4 r : Int32) : Int32 := if x3 < x2 then own_i2c (own_i2c (if r < (0 : Int32) then (r + (256 : Int32)) else r)) else own_i2c x4
set_option maxRecDepth 65536 in
set_option maxHeartbeats 40000000 in
theorem met7 (l : Launch) (Z : State) (a0 : Array Value) (hw : ∀ d ∈ tables_1, d.before a0 Z = true) (x0 : Addr) (x1 : Int32) (x2 : Int32) (x3 : Int32) (x4 : Int32) (nn : Nat) (f : Nat → Int32) (k : Nat) (r : Int32) (h0 : Heap) (n0 : Nat) (Z0 : n0 ≤ h0.size) (A : own_Arf Z h0 x0 .byte nn (fun j => .int (f j))) (hb1 : x3 < x2 → (x1 + x3).toInt = (k : Int) ∧ k < nn) (hv : f k = r) :
    own_Met l Z (⟨"com/example/needle_in_text/needleintext/text/ByteTextCopySymbolsPinLaw", "expected", "([BIIIC)C"⟩ : MethodName) method_3_code 6 (some .char) { frames := 0, cells := 0, slots := 0, locals := 0 } #[(.ref x0), (.int x1), (.int x2), (.int x3), (.int x4)] h0 (fun v h L => own_Pure (.int (own_e x2 x3 x4 r)) h0 v h L) := by
  refine own_met pn_7 ?_
  intro p e s m below meth c T0 X0 hx hby hml hown hZ e0 hret hlk hnm
  rw [ef_7 m x0 x1 x2 x3 x4]
  have N0 := Fr.nil n0
  show own_Fin _ _ _ _ _ _ _ (T0.setTop (mkF m 0 #[.val (.ref x0), .val (.int x1), .val (.int x2), .val (.int x3), .val (.int x4), .unset] []))
  refine own_of (fun _ kk => XS.iloadN X0.here hx rfl (hb hby d7_0) rfl kk) ?_
  show own_Fin _ _ _ _ _ _ _ (T0.setTop (mkF m 1 #[.val (.ref x0), .val (.int x1), .val (.int x2), .val (.int x3), .val (.int x4), .unset] [(.int x3)]))
  refine own_of (fun _ kk => XS.iloadN X0.here hx rfl (hb hby d7_1) rfl kk) ?_
  show own_Fin _ _ _ _ _ _ _ (T0.setTop (mkF m 2 #[.val (.ref x0), .val (.int x1), .val (.int x2), .val (.int x3), .val (.int x4), .unset] [(.int x2), (.int x3)]))
  by_cases c2 : x3 < x2
  · refine own_of (fun _ kk => XS.icmpNo X0.here hx rfl (hb hby d7_2) rfl (tlt c2).2.1 kk) ?_
    show own_Fin _ _ _ _ _ _ _ (T0.setTop (mkF m 5 #[.val (.ref x0), .val (.int x1), .val (.int x2), .val (.int x3), .val (.int x4), .unset] []))
    refine own_of (fun _ kk => XS.aloadN X0.here hx rfl (hb hby d7_5) rfl rfl kk) ?_
    show own_Fin _ _ _ _ _ _ _ (T0.setTop (mkF m 6 #[.val (.ref x0), .val (.int x1), .val (.int x2), .val (.int x3), .val (.int x4), .unset] [(.ref x0)]))
    refine own_of (fun _ kk => XS.iloadN X0.here hx rfl (hb hby d7_6) rfl kk) ?_
    show own_Fin _ _ _ _ _ _ _ (T0.setTop (mkF m 7 #[.val (.ref x0), .val (.int x1), .val (.int x2), .val (.int x3), .val (.int x4), .unset] [(.int x1), (.ref x0)]))
    refine own_of (fun _ kk => XS.iloadN X0.here hx rfl (hb hby d7_7) rfl kk) ?_
    show own_Fin _ _ _ _ _ _ _ (T0.setTop (mkF m 8 #[.val (.ref x0), .val (.int x1), .val (.int x2), .val (.int x3), .val (.int x4), .unset] [(.int x3), (.int x1), (.ref x0)]))
    refine own_of (fun _ kk => XS.iadd X0.here hx rfl (hb hby d7_8) rfl kk) ?_
    show own_Fin _ _ _ _ _ _ _ (T0.setTop (mkF m 9 #[.val (.ref x0), .val (.int x1), .val (.int x2), .val (.int x3), .val (.int x4), .unset] [(.int (x1 + x3)), (.ref x0)]))
    refine own_baload X0 hx hZ e0 A (i := k) (hb1 c2).1 (hb1 c2).2 (v := (.int r)) (by rw [hv]) (hb hby d7_9) ?_
    show own_Fin _ _ _ _ _ _ _ (T0.setTop (mkF m 10 #[.val (.ref x0), .val (.int x1), .val (.int x2), .val (.int x3), .val (.int x4), .unset] [(.int r)]))
    refine own_of (fun _ kk => XS.istore X0.here hx rfl (hb hby d7_10) rfl (l' := #[.val (.ref x0), .val (.int x1), .val (.int x2), .val (.int x3), .val (.int x4), .val (.int r)]) rfl kk) ?_
    show own_Fin _ _ _ _ _ _ _ (T0.setTop (mkF m 12 #[.val (.ref x0), .val (.int x1), .val (.int x2), .val (.int x3), .val (.int x4), .val (.int r)] []))
    refine own_of (fun _ kk => XS.iload X0.here hx rfl (hb hby d7_12) rfl kk) ?_
    show own_Fin _ _ _ _ _ _ _ (T0.setTop (mkF m 14 #[.val (.ref x0), .val (.int x1), .val (.int x2), .val (.int x3), .val (.int x4), .val (.int r)] [(.int r)]))
    suffices k1 : own_Fin _ _ _ _ _ _ _ (T0.setTop (mkF m 25 #[.val (.ref x0), .val (.int x1), .val (.int x2), .val (.int x3), .val (.int x4), .val (.int (if r < (0 : Int32) then (r + (256 : Int32)) else r))] [])) by
      by_cases c14 : r < (0 : Int32)
      · refine own_of (fun _ kk => XS.ifNo X0.here hx rfl (hb hby d7_14) rfl ((if0 _ _).trans (tlt c14).2.1) kk) ?_
        show own_Fin _ _ _ _ _ _ _ (T0.setTop (mkF m 17 #[.val (.ref x0), .val (.int x1), .val (.int x2), .val (.int x3), .val (.int x4), .val (.int r)] []))
        refine own_of (fun _ kk => XS.iload X0.here hx rfl (hb hby d7_17) rfl kk) ?_
        show own_Fin _ _ _ _ _ _ _ (T0.setTop (mkF m 19 #[.val (.ref x0), .val (.int x1), .val (.int x2), .val (.int x3), .val (.int x4), .val (.int r)] [(.int r)]))
        refine own_of (fun _ kk => XS.sipush X0.here hx rfl (hb hby d7_19) kk) ?_
        show own_Fin _ _ _ _ _ _ _ (T0.setTop (mkF m 22 #[.val (.ref x0), .val (.int x1), .val (.int x2), .val (.int x3), .val (.int x4), .val (.int r)] [(.int (256 : Int32)), (.int r)]))
        refine own_of (fun _ kk => XS.iadd X0.here hx rfl (hb hby d7_22) rfl kk) ?_
        show own_Fin _ _ _ _ _ _ _ (T0.setTop (mkF m 23 #[.val (.ref x0), .val (.int x1), .val (.int x2), .val (.int x3), .val (.int x4), .val (.int r)] [(.int (r + (256 : Int32)))]))
        refine own_of (fun _ kk => XS.istore X0.here hx rfl (hb hby d7_23) rfl (l' := #[.val (.ref x0), .val (.int x1), .val (.int x2), .val (.int x3), .val (.int x4), .val (.int (r + (256 : Int32)))]) rfl kk) ?_
        show own_Fin _ _ _ _ _ _ _ (T0.setTop (mkF m 25 #[.val (.ref x0), .val (.int x1), .val (.int x2), .val (.int x3), .val (.int x4), .val (.int (r + (256 : Int32)))] []))
        simp only [if_pos c14] at k1 ⊢
        exact k1
      · refine own_of (fun _ kk => XS.ifYes X0.here hx rfl (pc0 := 14) (pc' := 25) rfl (hb hby d7_14) rfl ((if0 _ _).trans (flt c14).2.1) (by decide) (by decide) kk) ?_
        show own_Fin _ _ _ _ _ _ _ (T0.setTop (mkF m 25 #[.val (.ref x0), .val (.int x1), .val (.int x2), .val (.int x3), .val (.int x4), .val (.int r)] []))
        simp only [if_neg c14] at k1 ⊢
        exact k1
    show own_Fin _ _ _ _ _ _ _ (T0.setTop (mkF m 25 #[.val (.ref x0), .val (.int x1), .val (.int x2), .val (.int x3), .val (.int x4), .val (.int (if r < (0 : Int32) then (r + (256 : Int32)) else r))] []))
    refine own_of (fun _ kk => XS.iload X0.here hx rfl (hb hby d7_25) rfl kk) ?_
    show own_Fin _ _ _ _ _ _ _ (T0.setTop (mkF m 27 #[.val (.ref x0), .val (.int x1), .val (.int x2), .val (.int x3), .val (.int x4), .val (.int (if r < (0 : Int32) then (r + (256 : Int32)) else r))] [(.int (if r < (0 : Int32) then (r + (256 : Int32)) else r))]))
    refine own_of (fun _ kk => XS.i2c X0.here hx rfl (hb hby d7_27) rfl kk) ?_
    show own_Fin _ _ _ _ _ _ _ (T0.setTop (mkF m 28 #[.val (.ref x0), .val (.int x1), .val (.int x2), .val (.int x3), .val (.int x4), .val (.int (if r < (0 : Int32) then (r + (256 : Int32)) else r))] [(.int (own_i2c (if r < (0 : Int32) then (r + (256 : Int32)) else r)))]))
    exact own_retN X0 hx hlk e0 (t := .char) hret (by simp) (hb hby d7_28) (by decide) (by decide) (z' := (own_i2c (own_i2c (if r < (0 : Int32) then (r + (256 : Int32)) else r)))) rfl ⟨by first | (simp only [own_e, if_pos c2]; done) | (simp only [own_e, if_pos c2]; rfl), rfl, rfl⟩
  · refine own_of (fun _ kk => XS.icmpYes X0.here hx rfl (pc0 := 2) (pc' := 29) rfl (hb hby d7_2) rfl (flt c2).2.1 (by decide) (by decide) kk) ?_
    show own_Fin _ _ _ _ _ _ _ (T0.setTop (mkF m 29 #[.val (.ref x0), .val (.int x1), .val (.int x2), .val (.int x3), .val (.int x4), .unset] []))
    refine own_of (fun _ kk => XS.iload X0.here hx rfl (hb hby d7_29) rfl kk) ?_
    show own_Fin _ _ _ _ _ _ _ (T0.setTop (mkF m 31 #[.val (.ref x0), .val (.int x1), .val (.int x2), .val (.int x3), .val (.int x4), .unset] [(.int x4)]))
    exact own_retN X0 hx hlk e0 (t := .char) hret (by simp) (hb hby d7_31) (by decide) (by decide) (z' := (own_i2c x4)) rfl ⟨by first | (simp only [own_e, if_neg c2]; done) | (simp only [own_e, if_neg c2]; rfl), rfl, rfl⟩
def own_fb (x0 : Int64) (j : Nat) : Int32 := (if j = 5 then (own_i2b (own_i2b (own_lushr x0 (40 : Int32)).toInt32)) else (if j = 4 then (own_i2b (own_i2b (own_lushr x0 (32 : Int32)).toInt32)) else (if j = 3 then (own_i2b (own_i2b (own_lushr x0 (24 : Int32)).toInt32)) else (if j = 2 then (own_i2b (own_i2b (own_lushr x0 (16 : Int32)).toInt32)) else (if j = 1 then (own_i2b (own_i2b (own_lushr x0 (8 : Int32)).toInt32)) else (if j = 0 then (own_i2b (own_i2b x0.toInt32)) else (0 : Int32)))))))
def own_len (x1 : Int32) : Int32 := (x1 &&& (2147483647 : Int32)) % (7 : Int32)
def own_fr (x1 x2 : Int32) : Int32 := (x2 &&& (2147483647 : Int32)) % (own_len x1 + (1 : Int32))
def own_to (x1 x2 x3 : Int32) : Int32 := own_fr x1 x2 + (x3 &&& (2147483647 : Int32)) % ((own_len x1 - own_fr x1 x2) + (1 : Int32))
theorem own_pos (x : Int32) : 0 ≤ (x &&& (2147483647 : Int32)).toInt := by rw [c_mask x 2147483647 31 (by decide) (by decide)]; omega
theorem own_lr (x1 : Int32) : 0 ≤ (own_len x1).toInt ∧ (own_len x1).toInt ≤ 6 := by
  have := (c_irem (x1 &&& (2147483647 : Int32)) 7 7 (by decide)).1 (own_pos x1)
  unfold own_len; omega
theorem own_l1 (x1 : Int32) : (own_len x1 + (1 : Int32)).toInt = (own_len x1).toInt + 1 := by
  have h := own_lr x1; have h1 := c_iadd (own_len x1) 1; have h2 := rng32 (own_len x1 + 1); have k : (1 : Int32).toInt = 1 := by decide
  omega
theorem own_nz1 (x1 : Int32) : (own_len x1 + (1 : Int32)) ≠ 0 := fun e => by
  have h := own_l1 x1; have h1 := own_lr x1; rw [e] at h; have k : (0 : Int32).toInt = 0 := by decide
  omega
theorem own_frr (x1 x2 : Int32) : 0 ≤ (own_fr x1 x2).toInt ∧ (own_fr x1 x2).toInt ≤ (own_len x1).toInt := by
  have h := own_l1 x1; have h1 := own_lr x1
  have h2 := (c_iremV (x2 &&& (2147483647 : Int32)) (own_len x1 + 1)).1 (own_pos x2) (by omega)
  unfold own_fr; omega
theorem own_df (x1 x2 : Int32) : ((own_len x1 - own_fr x1 x2) + (1 : Int32)).toInt = (own_len x1).toInt - (own_fr x1 x2).toInt + 1 := by
  have h := own_lr x1; have h0 := own_frr x1 x2; have h1 := c_isub (own_len x1) (own_fr x1 x2); have h2 := rng32 (own_len x1 - own_fr x1 x2); have h3 := c_iadd (own_len x1 - own_fr x1 x2) 1; have h4 := rng32 ((own_len x1 - own_fr x1 x2) + 1); have k : (1 : Int32).toInt = 1 := by decide
  omega
theorem own_nz2 (x1 x2 : Int32) : ((own_len x1 - own_fr x1 x2) + (1 : Int32)) ≠ 0 := fun e => by
  have h := own_df x1 x2; have h1 := own_frr x1 x2; rw [e] at h; have k : (0 : Int32).toInt = 0 := by decide
  omega
theorem own_tor (x1 x2 x3 : Int32) : (own_fr x1 x2).toInt ≤ (own_to x1 x2 x3).toInt ∧ (own_to x1 x2 x3).toInt ≤ (own_len x1).toInt := by
  have h := own_lr x1; have h0 := own_frr x1 x2; have h1 := own_df x1 x2
  have h2 := (c_iremV (x3 &&& (2147483647 : Int32)) ((own_len x1 - own_fr x1 x2) + 1)).1 (own_pos x3) (by omega)
  have h3 := c_iadd (own_fr x1 x2) ((x3 &&& (2147483647 : Int32)) % ((own_len x1 - own_fr x1 x2) + 1))
  have h4 := rng32 (own_fr x1 x2 + (x3 &&& (2147483647 : Int32)) % ((own_len x1 - own_fr x1 x2) + 1))
  unfold own_to; omega
def own_F (x1 x2 : Int32) : Nat := (own_fr x1 x2).toInt.toNat
def own_N (x1 x2 x3 : Int32) : Nat := (own_to x1 x2 x3).toInt.toNat - (own_fr x1 x2).toInt.toNat
theorem own_fbr (x0 : Int64) (j : Nat) : -128 ≤ (own_fb x0 j).toInt ∧ (own_fb x0 j).toInt < 128 := by
  have h : ∀ y : Int32, -128 ≤ (own_i2b y).toInt ∧ (own_i2b y).toInt < 128 := fun y => (c_i2b y).2
  have e : own_fb x0 j = 0 ∨ ∃ y, own_fb x0 j = own_i2b y := by
    unfold own_fb
    (repeat' split) <;> first | exact Or.inr ⟨_, rfl⟩ | exact Or.inl rfl
  rcases e with e | ⟨y, e⟩
  · rw [e]; decide
  · rw [e]; exact h y
theorem own_i2c_s (x : Int32) (h0 : 0 ≤ x.toInt) (h1 : x.toInt < 65536) : own_i2c x = x := by
  have h := c_i2c x
  change ((own_i2c x).toInt - x.toInt) % 65536 = 0 ∧ 0 ≤ (own_i2c x).toInt ∧ (own_i2c x).toInt < 65536 at h
  exact Int32.toInt_inj.mp (by omega)
theorem own_i2c_i2c (x : Int32) : own_i2c (own_i2c x) = own_i2c x := by
  have h := c_i2c x
  change ((own_i2c x).toInt - x.toInt) % 65536 = 0 ∧ 0 ≤ (own_i2c x).toInt ∧ (own_i2c x).toInt < 65536 at h
  exact own_i2c_s _ h.2.1 h.2.2
theorem own_low (r : Int32) (h0 : -128 ≤ r.toInt) (h1 : r.toInt < 128) : (r &&& (255 : Int32)) = (if r < (0 : Int32) then (r + (256 : Int32)) else r) := by
  have h := c_mask r 255 8 (by decide) (by decide)
  have h2 := c_iadd r 256
  have h3 := rng32 (r + 256)
  have k0 : (0 : Int32).toInt = 0 := by decide
  have k1 : (256 : Int32).toInt = 256 := by decide
  apply Int32.toInt_inj.mp
  rw [h]
  simp only [Int32.lt_iff_toInt_lt, k0]
  split <;> omega
theorem own_dN (x1 x2 x3 : Int32) : (own_to x1 x2 x3 - own_fr x1 x2).toInt = (own_N x1 x2 x3 : Int) := by
  have h := own_tor x1 x2 x3; have h0 := own_frr x1 x2; have h1 := own_lr x1; have h2 := c_isub (own_to x1 x2 x3) (own_fr x1 x2); have h3 := rng32 (own_to x1 x2 x3 - own_fr x1 x2)
  unfold own_N; omega
theorem own_eq (x0 : Int64) (x1 x2 x3 x4 q : Int32) (i : Nat) (hq : q.toInt = (i : Int)) : own_c (own_fb x0) (fun _ => own_i2c (own_i2c x4)) (own_F x1 x2) (own_N x1 x2 x3) i = own_e (own_to x1 x2 x3 - own_fr x1 x2) q (own_i2c x4) (own_fb x0 (own_F x1 x2 + i)) := by
  have e : q < own_to x1 x2 x3 - own_fr x1 x2 ↔ i < own_N x1 x2 x3 := by rw [Int32.lt_iff_toInt_lt, own_dN]; omega
  unfold own_c own_e
  by_cases h : i < own_N x1 x2 x3
  · rw [if_pos h, if_pos (e.mpr h), own_low _ (own_fbr _ _).1 (own_fbr _ _).2]
  · rw [if_neg h, if_neg (mt e.mp h)]
theorem own_hb (x1 x2 x3 q : Int32) (i : Nat) (hq : q.toInt = (i : Int)) (h : q < own_to x1 x2 x3 - own_fr x1 x2) : (own_fr x1 x2 + q).toInt = ((own_F x1 x2 + i : Nat) : Int) ∧ own_F x1 x2 + i < 6 := by
  rw [Int32.lt_iff_toInt_lt, own_dN] at h
  have h1 := own_tor x1 x2 x3; have h0 := own_frr x1 x2; have h2 := own_lr x1; have h3 := c_iadd (own_fr x1 x2) q; have h4 := rng32 (own_fr x1 x2 + q)
  unfold own_N at h
  unfold own_F
  omega
theorem own_hT (x1 x2 x3 : Int32) : (own_to x1 x2 x3).toInt = ((own_F x1 x2 + own_N x1 x2 x3 : Nat) : Int) := by
  have h := own_tor x1 x2 x3; have h0 := own_frr x1 x2
  unfold own_F own_N; omega
theorem own_hnb (x1 x2 x3 : Int32) : own_F x1 x2 + own_N x1 x2 x3 ≤ 6 := by
  have h := own_tor x1 x2 x3; have h0 := own_frr x1 x2; have h1 := own_lr x1
  unfold own_F own_N; omega
theorem own_g1 (x1 x2 : Int32) : ¬ own_fr x1 x2 < (0 : Int32) := by
  have h0 := own_frr x1 x2; have k0 : (0 : Int32).toInt = 0 := by decide
  rw [Int32.lt_iff_toInt_lt]; omega
theorem own_g2 (x1 x2 x3 : Int32) : ¬ own_to x1 x2 x3 < own_fr x1 x2 := by have h := own_tor x1 x2 x3; rw [Int32.lt_iff_toInt_lt]; omega
theorem own_g3 (x1 x2 x3 : Int32) : ¬ own_len x1 < own_to x1 x2 x3 := by have h := own_tor x1 x2 x3; rw [Int32.lt_iff_toInt_lt]; omega
set_option maxRecDepth 65536 in
set_option maxHeartbeats 40000000 in
theorem own_law (l : Launch) (Z : State) (a0 : Array Value) (hw : ∀ d ∈ tables_1, d.before a0 Z = true) (x0 : Int64) (x1 : Int32) (x2 : Int32) (x3 : Int32) (x4 : Int32) (h0 : Heap) (n0 : Nat) (Z0 : n0 ≤ h0.size) :
    own_Met l Z x code maxLocals ret room_1 #[(.long x0), (.int x1), (.int x2), (.int x3), (.int x4)] h0 (fun v h L => v = some (.int 1) ∧ Fr n0 L) := by
  refine own_met pn_0 ?_
  intro p e s m below meth c T0 X0 hx hby hml hown hZ e0 hret hlk hnm
  replace hown : s.vm.findClass "com/example/needle_in_text/needleintext/text/ByteTextCopySymbolsPinLaw" = some m.cls := hown
  replace hml : c.maxLocals = 15 := hml
  rw [ef_0 m x0 x1 x2 x3 x4]
  have N0 := Fr.nil n0
  show own_Fin _ _ _ _ _ _ _ (T0.setTop (mkF m 0 #[.val (.long x0), .second, .val (.int x1), .val (.int x2), .val (.int x3), .val (.int x4), .unset, .unset, .unset, .unset, .unset, .unset, .unset, .unset, .unset] []))
  refine own_of (fun _ kk => XS.bipush X0.here hx rfl (hb hby at_0) kk) ?_
  show own_Fin _ _ _ _ _ _ _ (T0.setTop (mkF m 2 #[.val (.long x0), .second, .val (.int x1), .val (.int x2), .val (.int x3), .val (.int x4), .unset, .unset, .unset, .unset, .unset, .unset, .unset, .unset, .unset] [(.int (6 : Int32))]))
  refine own_newP X0 hx hZ (hw _ (List.mem_of_getElem? (i := 0) rfl)) e0 (hb hby at_2) (n := 6) (by decide) (cap := 6) (Nat.le_refl _) (by decide) (by decide) (by decide) ?_
  intro T1 h1 b1 X1 e1 E1 g1 A1
  have Z1 : n0 ≤ h1.size := Nat.le_trans Z0 E1.1
  have ge_b1 : n0 ≤ b1 := by rw [g1]; exact Z0
  replace A1 : own_Arf Z h1 b1 .byte 6 (fun _ => (.int (0 : Int32))) := A1
  show own_Fin _ _ _ _ _ _ _ (T1.setTop (mkF m 4 #[.val (.long x0), .second, .val (.int x1), .val (.int x2), .val (.int x3), .val (.int x4), .unset, .unset, .unset, .unset, .unset, .unset, .unset, .unset, .unset] [(.ref b1)]))
  refine own_of (fun _ kk => XS.astore X1.here hx rfl (hb hby at_4) rfl rfl (l' := #[.val (.long x0), .second, .val (.int x1), .val (.int x2), .val (.int x3), .val (.int x4), .val (.ref b1), .unset, .unset, .unset, .unset, .unset, .unset, .unset, .unset]) rfl kk) ?_
  show own_Fin _ _ _ _ _ _ _ (T1.setTop (mkF m 6 #[.val (.long x0), .second, .val (.int x1), .val (.int x2), .val (.int x3), .val (.int x4), .val (.ref b1), .unset, .unset, .unset, .unset, .unset, .unset, .unset, .unset] []))
  refine own_of (fun _ kk => XS.aload X1.here hx rfl (hb hby at_6) rfl rfl kk) ?_
  show own_Fin _ _ _ _ _ _ _ (T1.setTop (mkF m 8 #[.val (.long x0), .second, .val (.int x1), .val (.int x2), .val (.int x3), .val (.int x4), .val (.ref b1), .unset, .unset, .unset, .unset, .unset, .unset, .unset, .unset] [(.ref b1)]))
  refine own_of (fun _ kk => XS.iconst X1.here hx rfl (hb hby at_8) kk) ?_
  show own_Fin _ _ _ _ _ _ _ (T1.setTop (mkF m 9 #[.val (.long x0), .second, .val (.int x1), .val (.int x2), .val (.int x3), .val (.int x4), .val (.ref b1), .unset, .unset, .unset, .unset, .unset, .unset, .unset, .unset] [(.int (0 : Int32)), (.ref b1)]))
  refine own_of (fun _ kk => XS.lloadN X1.here hx rfl (hb hby at_9) rfl kk) ?_
  show own_Fin _ _ _ _ _ _ _ (T1.setTop (mkF m 10 #[.val (.long x0), .second, .val (.int x1), .val (.int x2), .val (.int x3), .val (.int x4), .val (.ref b1), .unset, .unset, .unset, .unset, .unset, .unset, .unset, .unset] [(.long x0), (.int (0 : Int32)), (.ref b1)]))
  refine own_of (fun _ kk => XS.l2i X1.here hx rfl (hb hby at_10) rfl kk) ?_
  show own_Fin _ _ _ _ _ _ _ (T1.setTop (mkF m 11 #[.val (.long x0), .second, .val (.int x1), .val (.int x2), .val (.int x3), .val (.int x4), .val (.ref b1), .unset, .unset, .unset, .unset, .unset, .unset, .unset, .unset] [(.int x0.toInt32), (.int (0 : Int32)), (.ref b1)]))
  refine own_of (fun _ kk => XS.i2b X1.here hx rfl (hb hby at_11) rfl kk) ?_
  show own_Fin _ _ _ _ _ _ _ (T1.setTop (mkF m 12 #[.val (.long x0), .second, .val (.int x1), .val (.int x2), .val (.int x3), .val (.int x4), .val (.ref b1), .unset, .unset, .unset, .unset, .unset, .unset, .unset, .unset] [(.int (own_i2b x0.toInt32)), (.int (0 : Int32)), (.ref b1)]))
  refine own_bastore X1 hx hZ e1 A1 N0 ge_b1 (i := 0) (by decide) (by decide) (hb hby at_12) ?_
  intro T2 h2 l2 X2 N2 e2 W2 A2
  replace A2 : own_Arf Z h2 b1 .byte 6 (fun j => if j = 0 then (.int (own_i2b (own_i2b x0.toInt32))) else (fun _ => (.int (0 : Int32))) j) := A2
  have ZW2 : n0 ≤ h2.size := by rw [Wr.size W2]; exact Z1
  show own_Fin _ _ _ _ _ _ _ (T2.setTop (mkF m 13 #[.val (.long x0), .second, .val (.int x1), .val (.int x2), .val (.int x3), .val (.int x4), .val (.ref b1), .unset, .unset, .unset, .unset, .unset, .unset, .unset, .unset] []))
  refine own_of (fun _ kk => XS.aload X2.here hx rfl (hb hby at_13) rfl rfl kk) ?_
  show own_Fin _ _ _ _ _ _ _ (T2.setTop (mkF m 15 #[.val (.long x0), .second, .val (.int x1), .val (.int x2), .val (.int x3), .val (.int x4), .val (.ref b1), .unset, .unset, .unset, .unset, .unset, .unset, .unset, .unset] [(.ref b1)]))
  refine own_of (fun _ kk => XS.iconst X2.here hx rfl (hb hby at_15) kk) ?_
  show own_Fin _ _ _ _ _ _ _ (T2.setTop (mkF m 16 #[.val (.long x0), .second, .val (.int x1), .val (.int x2), .val (.int x3), .val (.int x4), .val (.ref b1), .unset, .unset, .unset, .unset, .unset, .unset, .unset, .unset] [(.int (1 : Int32)), (.ref b1)]))
  refine own_of (fun _ kk => XS.lloadN X2.here hx rfl (hb hby at_16) rfl kk) ?_
  show own_Fin _ _ _ _ _ _ _ (T2.setTop (mkF m 17 #[.val (.long x0), .second, .val (.int x1), .val (.int x2), .val (.int x3), .val (.int x4), .val (.ref b1), .unset, .unset, .unset, .unset, .unset, .unset, .unset, .unset] [(.long x0), (.int (1 : Int32)), (.ref b1)]))
  refine own_of (fun _ kk => XS.bipush X2.here hx rfl (hb hby at_17) kk) ?_
  show own_Fin _ _ _ _ _ _ _ (T2.setTop (mkF m 19 #[.val (.long x0), .second, .val (.int x1), .val (.int x2), .val (.int x3), .val (.int x4), .val (.ref b1), .unset, .unset, .unset, .unset, .unset, .unset, .unset, .unset] [(.int (8 : Int32)), (.long x0), (.int (1 : Int32)), (.ref b1)]))
  refine own_of (fun _ kk => XS.lushr X2.here hx rfl (hb hby at_19) rfl kk) ?_
  show own_Fin _ _ _ _ _ _ _ (T2.setTop (mkF m 20 #[.val (.long x0), .second, .val (.int x1), .val (.int x2), .val (.int x3), .val (.int x4), .val (.ref b1), .unset, .unset, .unset, .unset, .unset, .unset, .unset, .unset] [(.long (own_lushr x0 (8 : Int32))), (.int (1 : Int32)), (.ref b1)]))
  refine own_of (fun _ kk => XS.l2i X2.here hx rfl (hb hby at_20) rfl kk) ?_
  show own_Fin _ _ _ _ _ _ _ (T2.setTop (mkF m 21 #[.val (.long x0), .second, .val (.int x1), .val (.int x2), .val (.int x3), .val (.int x4), .val (.ref b1), .unset, .unset, .unset, .unset, .unset, .unset, .unset, .unset] [(.int (own_lushr x0 (8 : Int32)).toInt32), (.int (1 : Int32)), (.ref b1)]))
  refine own_of (fun _ kk => XS.i2b X2.here hx rfl (hb hby at_21) rfl kk) ?_
  show own_Fin _ _ _ _ _ _ _ (T2.setTop (mkF m 22 #[.val (.long x0), .second, .val (.int x1), .val (.int x2), .val (.int x3), .val (.int x4), .val (.ref b1), .unset, .unset, .unset, .unset, .unset, .unset, .unset, .unset] [(.int (own_i2b (own_lushr x0 (8 : Int32)).toInt32)), (.int (1 : Int32)), (.ref b1)]))
  refine own_bastore X2 hx hZ e2 A2 N2 ge_b1 (i := 1) (by decide) (by decide) (hb hby at_22) ?_
  intro T3 h3 l3 X3 N3 e3 W3 A3
  replace A3 : own_Arf Z h3 b1 .byte 6 (fun j => if j = 1 then (.int (own_i2b (own_i2b (own_lushr x0 (8 : Int32)).toInt32))) else (fun j => if j = 0 then (.int (own_i2b (own_i2b x0.toInt32))) else (fun _ => (.int (0 : Int32))) j) j) := A3
  have ZW3 : n0 ≤ h3.size := by rw [Wr.size W3]; exact ZW2
  show own_Fin _ _ _ _ _ _ _ (T3.setTop (mkF m 23 #[.val (.long x0), .second, .val (.int x1), .val (.int x2), .val (.int x3), .val (.int x4), .val (.ref b1), .unset, .unset, .unset, .unset, .unset, .unset, .unset, .unset] []))
  refine own_of (fun _ kk => XS.aload X3.here hx rfl (hb hby at_23) rfl rfl kk) ?_
  show own_Fin _ _ _ _ _ _ _ (T3.setTop (mkF m 25 #[.val (.long x0), .second, .val (.int x1), .val (.int x2), .val (.int x3), .val (.int x4), .val (.ref b1), .unset, .unset, .unset, .unset, .unset, .unset, .unset, .unset] [(.ref b1)]))
  refine own_of (fun _ kk => XS.iconst X3.here hx rfl (hb hby at_25) kk) ?_
  show own_Fin _ _ _ _ _ _ _ (T3.setTop (mkF m 26 #[.val (.long x0), .second, .val (.int x1), .val (.int x2), .val (.int x3), .val (.int x4), .val (.ref b1), .unset, .unset, .unset, .unset, .unset, .unset, .unset, .unset] [(.int (2 : Int32)), (.ref b1)]))
  refine own_of (fun _ kk => XS.lloadN X3.here hx rfl (hb hby at_26) rfl kk) ?_
  show own_Fin _ _ _ _ _ _ _ (T3.setTop (mkF m 27 #[.val (.long x0), .second, .val (.int x1), .val (.int x2), .val (.int x3), .val (.int x4), .val (.ref b1), .unset, .unset, .unset, .unset, .unset, .unset, .unset, .unset] [(.long x0), (.int (2 : Int32)), (.ref b1)]))
  refine own_of (fun _ kk => XS.bipush X3.here hx rfl (hb hby at_27) kk) ?_
  show own_Fin _ _ _ _ _ _ _ (T3.setTop (mkF m 29 #[.val (.long x0), .second, .val (.int x1), .val (.int x2), .val (.int x3), .val (.int x4), .val (.ref b1), .unset, .unset, .unset, .unset, .unset, .unset, .unset, .unset] [(.int (16 : Int32)), (.long x0), (.int (2 : Int32)), (.ref b1)]))
  refine own_of (fun _ kk => XS.lushr X3.here hx rfl (hb hby at_29) rfl kk) ?_
  show own_Fin _ _ _ _ _ _ _ (T3.setTop (mkF m 30 #[.val (.long x0), .second, .val (.int x1), .val (.int x2), .val (.int x3), .val (.int x4), .val (.ref b1), .unset, .unset, .unset, .unset, .unset, .unset, .unset, .unset] [(.long (own_lushr x0 (16 : Int32))), (.int (2 : Int32)), (.ref b1)]))
  refine own_of (fun _ kk => XS.l2i X3.here hx rfl (hb hby at_30) rfl kk) ?_
  show own_Fin _ _ _ _ _ _ _ (T3.setTop (mkF m 31 #[.val (.long x0), .second, .val (.int x1), .val (.int x2), .val (.int x3), .val (.int x4), .val (.ref b1), .unset, .unset, .unset, .unset, .unset, .unset, .unset, .unset] [(.int (own_lushr x0 (16 : Int32)).toInt32), (.int (2 : Int32)), (.ref b1)]))
  refine own_of (fun _ kk => XS.i2b X3.here hx rfl (hb hby at_31) rfl kk) ?_
  show own_Fin _ _ _ _ _ _ _ (T3.setTop (mkF m 32 #[.val (.long x0), .second, .val (.int x1), .val (.int x2), .val (.int x3), .val (.int x4), .val (.ref b1), .unset, .unset, .unset, .unset, .unset, .unset, .unset, .unset] [(.int (own_i2b (own_lushr x0 (16 : Int32)).toInt32)), (.int (2 : Int32)), (.ref b1)]))
  refine own_bastore X3 hx hZ e3 A3 N3 ge_b1 (i := 2) (by decide) (by decide) (hb hby at_32) ?_
  intro T4 h4 l4 X4 N4 e4 W4 A4
  replace A4 : own_Arf Z h4 b1 .byte 6 (fun j => if j = 2 then (.int (own_i2b (own_i2b (own_lushr x0 (16 : Int32)).toInt32))) else (fun j => if j = 1 then (.int (own_i2b (own_i2b (own_lushr x0 (8 : Int32)).toInt32))) else (fun j => if j = 0 then (.int (own_i2b (own_i2b x0.toInt32))) else (fun _ => (.int (0 : Int32))) j) j) j) := A4
  have ZW4 : n0 ≤ h4.size := by rw [Wr.size W4]; exact ZW3
  show own_Fin _ _ _ _ _ _ _ (T4.setTop (mkF m 33 #[.val (.long x0), .second, .val (.int x1), .val (.int x2), .val (.int x3), .val (.int x4), .val (.ref b1), .unset, .unset, .unset, .unset, .unset, .unset, .unset, .unset] []))
  refine own_of (fun _ kk => XS.aload X4.here hx rfl (hb hby at_33) rfl rfl kk) ?_
  show own_Fin _ _ _ _ _ _ _ (T4.setTop (mkF m 35 #[.val (.long x0), .second, .val (.int x1), .val (.int x2), .val (.int x3), .val (.int x4), .val (.ref b1), .unset, .unset, .unset, .unset, .unset, .unset, .unset, .unset] [(.ref b1)]))
  refine own_of (fun _ kk => XS.iconst X4.here hx rfl (hb hby at_35) kk) ?_
  show own_Fin _ _ _ _ _ _ _ (T4.setTop (mkF m 36 #[.val (.long x0), .second, .val (.int x1), .val (.int x2), .val (.int x3), .val (.int x4), .val (.ref b1), .unset, .unset, .unset, .unset, .unset, .unset, .unset, .unset] [(.int (3 : Int32)), (.ref b1)]))
  refine own_of (fun _ kk => XS.lloadN X4.here hx rfl (hb hby at_36) rfl kk) ?_
  show own_Fin _ _ _ _ _ _ _ (T4.setTop (mkF m 37 #[.val (.long x0), .second, .val (.int x1), .val (.int x2), .val (.int x3), .val (.int x4), .val (.ref b1), .unset, .unset, .unset, .unset, .unset, .unset, .unset, .unset] [(.long x0), (.int (3 : Int32)), (.ref b1)]))
  refine own_of (fun _ kk => XS.bipush X4.here hx rfl (hb hby at_37) kk) ?_
  show own_Fin _ _ _ _ _ _ _ (T4.setTop (mkF m 39 #[.val (.long x0), .second, .val (.int x1), .val (.int x2), .val (.int x3), .val (.int x4), .val (.ref b1), .unset, .unset, .unset, .unset, .unset, .unset, .unset, .unset] [(.int (24 : Int32)), (.long x0), (.int (3 : Int32)), (.ref b1)]))
  refine own_of (fun _ kk => XS.lushr X4.here hx rfl (hb hby at_39) rfl kk) ?_
  show own_Fin _ _ _ _ _ _ _ (T4.setTop (mkF m 40 #[.val (.long x0), .second, .val (.int x1), .val (.int x2), .val (.int x3), .val (.int x4), .val (.ref b1), .unset, .unset, .unset, .unset, .unset, .unset, .unset, .unset] [(.long (own_lushr x0 (24 : Int32))), (.int (3 : Int32)), (.ref b1)]))
  refine own_of (fun _ kk => XS.l2i X4.here hx rfl (hb hby at_40) rfl kk) ?_
  show own_Fin _ _ _ _ _ _ _ (T4.setTop (mkF m 41 #[.val (.long x0), .second, .val (.int x1), .val (.int x2), .val (.int x3), .val (.int x4), .val (.ref b1), .unset, .unset, .unset, .unset, .unset, .unset, .unset, .unset] [(.int (own_lushr x0 (24 : Int32)).toInt32), (.int (3 : Int32)), (.ref b1)]))
  refine own_of (fun _ kk => XS.i2b X4.here hx rfl (hb hby at_41) rfl kk) ?_
  show own_Fin _ _ _ _ _ _ _ (T4.setTop (mkF m 42 #[.val (.long x0), .second, .val (.int x1), .val (.int x2), .val (.int x3), .val (.int x4), .val (.ref b1), .unset, .unset, .unset, .unset, .unset, .unset, .unset, .unset] [(.int (own_i2b (own_lushr x0 (24 : Int32)).toInt32)), (.int (3 : Int32)), (.ref b1)]))
  refine own_bastore X4 hx hZ e4 A4 N4 ge_b1 (i := 3) (by decide) (by decide) (hb hby at_42) ?_
  intro T5 h5 l5 X5 N5 e5 W5 A5
  replace A5 : own_Arf Z h5 b1 .byte 6 (fun j => if j = 3 then (.int (own_i2b (own_i2b (own_lushr x0 (24 : Int32)).toInt32))) else (fun j => if j = 2 then (.int (own_i2b (own_i2b (own_lushr x0 (16 : Int32)).toInt32))) else (fun j => if j = 1 then (.int (own_i2b (own_i2b (own_lushr x0 (8 : Int32)).toInt32))) else (fun j => if j = 0 then (.int (own_i2b (own_i2b x0.toInt32))) else (fun _ => (.int (0 : Int32))) j) j) j) j) := A5
  have ZW5 : n0 ≤ h5.size := by rw [Wr.size W5]; exact ZW4
  show own_Fin _ _ _ _ _ _ _ (T5.setTop (mkF m 43 #[.val (.long x0), .second, .val (.int x1), .val (.int x2), .val (.int x3), .val (.int x4), .val (.ref b1), .unset, .unset, .unset, .unset, .unset, .unset, .unset, .unset] []))
  refine own_of (fun _ kk => XS.aload X5.here hx rfl (hb hby at_43) rfl rfl kk) ?_
  show own_Fin _ _ _ _ _ _ _ (T5.setTop (mkF m 45 #[.val (.long x0), .second, .val (.int x1), .val (.int x2), .val (.int x3), .val (.int x4), .val (.ref b1), .unset, .unset, .unset, .unset, .unset, .unset, .unset, .unset] [(.ref b1)]))
  refine own_of (fun _ kk => XS.iconst X5.here hx rfl (hb hby at_45) kk) ?_
  show own_Fin _ _ _ _ _ _ _ (T5.setTop (mkF m 46 #[.val (.long x0), .second, .val (.int x1), .val (.int x2), .val (.int x3), .val (.int x4), .val (.ref b1), .unset, .unset, .unset, .unset, .unset, .unset, .unset, .unset] [(.int (4 : Int32)), (.ref b1)]))
  refine own_of (fun _ kk => XS.lloadN X5.here hx rfl (hb hby at_46) rfl kk) ?_
  show own_Fin _ _ _ _ _ _ _ (T5.setTop (mkF m 47 #[.val (.long x0), .second, .val (.int x1), .val (.int x2), .val (.int x3), .val (.int x4), .val (.ref b1), .unset, .unset, .unset, .unset, .unset, .unset, .unset, .unset] [(.long x0), (.int (4 : Int32)), (.ref b1)]))
  refine own_of (fun _ kk => XS.bipush X5.here hx rfl (hb hby at_47) kk) ?_
  show own_Fin _ _ _ _ _ _ _ (T5.setTop (mkF m 49 #[.val (.long x0), .second, .val (.int x1), .val (.int x2), .val (.int x3), .val (.int x4), .val (.ref b1), .unset, .unset, .unset, .unset, .unset, .unset, .unset, .unset] [(.int (32 : Int32)), (.long x0), (.int (4 : Int32)), (.ref b1)]))
  refine own_of (fun _ kk => XS.lushr X5.here hx rfl (hb hby at_49) rfl kk) ?_
  show own_Fin _ _ _ _ _ _ _ (T5.setTop (mkF m 50 #[.val (.long x0), .second, .val (.int x1), .val (.int x2), .val (.int x3), .val (.int x4), .val (.ref b1), .unset, .unset, .unset, .unset, .unset, .unset, .unset, .unset] [(.long (own_lushr x0 (32 : Int32))), (.int (4 : Int32)), (.ref b1)]))
  refine own_of (fun _ kk => XS.l2i X5.here hx rfl (hb hby at_50) rfl kk) ?_
  show own_Fin _ _ _ _ _ _ _ (T5.setTop (mkF m 51 #[.val (.long x0), .second, .val (.int x1), .val (.int x2), .val (.int x3), .val (.int x4), .val (.ref b1), .unset, .unset, .unset, .unset, .unset, .unset, .unset, .unset] [(.int (own_lushr x0 (32 : Int32)).toInt32), (.int (4 : Int32)), (.ref b1)]))
  refine own_of (fun _ kk => XS.i2b X5.here hx rfl (hb hby at_51) rfl kk) ?_
  show own_Fin _ _ _ _ _ _ _ (T5.setTop (mkF m 52 #[.val (.long x0), .second, .val (.int x1), .val (.int x2), .val (.int x3), .val (.int x4), .val (.ref b1), .unset, .unset, .unset, .unset, .unset, .unset, .unset, .unset] [(.int (own_i2b (own_lushr x0 (32 : Int32)).toInt32)), (.int (4 : Int32)), (.ref b1)]))
  refine own_bastore X5 hx hZ e5 A5 N5 ge_b1 (i := 4) (by decide) (by decide) (hb hby at_52) ?_
  intro T6 h6 l6 X6 N6 e6 W6 A6
  replace A6 : own_Arf Z h6 b1 .byte 6 (fun j => if j = 4 then (.int (own_i2b (own_i2b (own_lushr x0 (32 : Int32)).toInt32))) else (fun j => if j = 3 then (.int (own_i2b (own_i2b (own_lushr x0 (24 : Int32)).toInt32))) else (fun j => if j = 2 then (.int (own_i2b (own_i2b (own_lushr x0 (16 : Int32)).toInt32))) else (fun j => if j = 1 then (.int (own_i2b (own_i2b (own_lushr x0 (8 : Int32)).toInt32))) else (fun j => if j = 0 then (.int (own_i2b (own_i2b x0.toInt32))) else (fun _ => (.int (0 : Int32))) j) j) j) j) j) := A6
  have ZW6 : n0 ≤ h6.size := by rw [Wr.size W6]; exact ZW5
  show own_Fin _ _ _ _ _ _ _ (T6.setTop (mkF m 53 #[.val (.long x0), .second, .val (.int x1), .val (.int x2), .val (.int x3), .val (.int x4), .val (.ref b1), .unset, .unset, .unset, .unset, .unset, .unset, .unset, .unset] []))
  refine own_of (fun _ kk => XS.aload X6.here hx rfl (hb hby at_53) rfl rfl kk) ?_
  show own_Fin _ _ _ _ _ _ _ (T6.setTop (mkF m 55 #[.val (.long x0), .second, .val (.int x1), .val (.int x2), .val (.int x3), .val (.int x4), .val (.ref b1), .unset, .unset, .unset, .unset, .unset, .unset, .unset, .unset] [(.ref b1)]))
  refine own_of (fun _ kk => XS.iconst X6.here hx rfl (hb hby at_55) kk) ?_
  show own_Fin _ _ _ _ _ _ _ (T6.setTop (mkF m 56 #[.val (.long x0), .second, .val (.int x1), .val (.int x2), .val (.int x3), .val (.int x4), .val (.ref b1), .unset, .unset, .unset, .unset, .unset, .unset, .unset, .unset] [(.int (5 : Int32)), (.ref b1)]))
  refine own_of (fun _ kk => XS.lloadN X6.here hx rfl (hb hby at_56) rfl kk) ?_
  show own_Fin _ _ _ _ _ _ _ (T6.setTop (mkF m 57 #[.val (.long x0), .second, .val (.int x1), .val (.int x2), .val (.int x3), .val (.int x4), .val (.ref b1), .unset, .unset, .unset, .unset, .unset, .unset, .unset, .unset] [(.long x0), (.int (5 : Int32)), (.ref b1)]))
  refine own_of (fun _ kk => XS.bipush X6.here hx rfl (hb hby at_57) kk) ?_
  show own_Fin _ _ _ _ _ _ _ (T6.setTop (mkF m 59 #[.val (.long x0), .second, .val (.int x1), .val (.int x2), .val (.int x3), .val (.int x4), .val (.ref b1), .unset, .unset, .unset, .unset, .unset, .unset, .unset, .unset] [(.int (40 : Int32)), (.long x0), (.int (5 : Int32)), (.ref b1)]))
  refine own_of (fun _ kk => XS.lushr X6.here hx rfl (hb hby at_59) rfl kk) ?_
  show own_Fin _ _ _ _ _ _ _ (T6.setTop (mkF m 60 #[.val (.long x0), .second, .val (.int x1), .val (.int x2), .val (.int x3), .val (.int x4), .val (.ref b1), .unset, .unset, .unset, .unset, .unset, .unset, .unset, .unset] [(.long (own_lushr x0 (40 : Int32))), (.int (5 : Int32)), (.ref b1)]))
  refine own_of (fun _ kk => XS.l2i X6.here hx rfl (hb hby at_60) rfl kk) ?_
  show own_Fin _ _ _ _ _ _ _ (T6.setTop (mkF m 61 #[.val (.long x0), .second, .val (.int x1), .val (.int x2), .val (.int x3), .val (.int x4), .val (.ref b1), .unset, .unset, .unset, .unset, .unset, .unset, .unset, .unset] [(.int (own_lushr x0 (40 : Int32)).toInt32), (.int (5 : Int32)), (.ref b1)]))
  refine own_of (fun _ kk => XS.i2b X6.here hx rfl (hb hby at_61) rfl kk) ?_
  show own_Fin _ _ _ _ _ _ _ (T6.setTop (mkF m 62 #[.val (.long x0), .second, .val (.int x1), .val (.int x2), .val (.int x3), .val (.int x4), .val (.ref b1), .unset, .unset, .unset, .unset, .unset, .unset, .unset, .unset] [(.int (own_i2b (own_lushr x0 (40 : Int32)).toInt32)), (.int (5 : Int32)), (.ref b1)]))
  refine own_bastore X6 hx hZ e6 A6 N6 ge_b1 (i := 5) (by decide) (by decide) (hb hby at_62) ?_
  intro T7 h7 l7 X7 N7 e7 W7 A7
  replace A7 : own_Arf Z h7 b1 .byte 6 (fun j => if j = 5 then (.int (own_i2b (own_i2b (own_lushr x0 (40 : Int32)).toInt32))) else (fun j => if j = 4 then (.int (own_i2b (own_i2b (own_lushr x0 (32 : Int32)).toInt32))) else (fun j => if j = 3 then (.int (own_i2b (own_i2b (own_lushr x0 (24 : Int32)).toInt32))) else (fun j => if j = 2 then (.int (own_i2b (own_i2b (own_lushr x0 (16 : Int32)).toInt32))) else (fun j => if j = 1 then (.int (own_i2b (own_i2b (own_lushr x0 (8 : Int32)).toInt32))) else (fun j => if j = 0 then (.int (own_i2b (own_i2b x0.toInt32))) else (fun _ => (.int (0 : Int32))) j) j) j) j) j) j) := A7
  have ZW7 : n0 ≤ h7.size := by rw [Wr.size W7]; exact ZW6
  show own_Fin _ _ _ _ _ _ _ (T7.setTop (mkF m 63 #[.val (.long x0), .second, .val (.int x1), .val (.int x2), .val (.int x3), .val (.int x4), .val (.ref b1), .unset, .unset, .unset, .unset, .unset, .unset, .unset, .unset] []))
  refine own_of (fun _ kk => XS.iloadN X7.here hx rfl (hb hby at_63) rfl kk) ?_
  show own_Fin _ _ _ _ _ _ _ (T7.setTop (mkF m 64 #[.val (.long x0), .second, .val (.int x1), .val (.int x2), .val (.int x3), .val (.int x4), .val (.ref b1), .unset, .unset, .unset, .unset, .unset, .unset, .unset, .unset] [(.int x1)]))
  refine own_of (fun _ kk => X7.ldcInt hx hown (mvT hZ (hw _ (List.mem_of_getElem? (i := 1) rfl))) (g := (mkF m 64 #[.val (.long x0), .second, .val (.int x1), .val (.int x2), .val (.int x3), .val (.int x4), .val (.ref b1), .unset, .unset, .unset, .unset, .unset, .unset, .unset, .unset] [(.int x1)])) rfl (hb hby at_64) _ kk) ?_
  show own_Fin _ _ _ _ _ _ _ (T7.setTop (mkF m 66 #[.val (.long x0), .second, .val (.int x1), .val (.int x2), .val (.int x3), .val (.int x4), .val (.ref b1), .unset, .unset, .unset, .unset, .unset, .unset, .unset, .unset] [(.int (2147483647 : Int32)), (.int x1)]))
  refine own_of (fun _ kk => XS.iand X7.here hx rfl (hb hby at_66) rfl kk) ?_
  show own_Fin _ _ _ _ _ _ _ (T7.setTop (mkF m 67 #[.val (.long x0), .second, .val (.int x1), .val (.int x2), .val (.int x3), .val (.int x4), .val (.ref b1), .unset, .unset, .unset, .unset, .unset, .unset, .unset, .unset] [(.int (x1 &&& (2147483647 : Int32)))]))
  refine own_of (fun _ kk => XS.bipush X7.here hx rfl (hb hby at_67) kk) ?_
  show own_Fin _ _ _ _ _ _ _ (T7.setTop (mkF m 69 #[.val (.long x0), .second, .val (.int x1), .val (.int x2), .val (.int x3), .val (.int x4), .val (.ref b1), .unset, .unset, .unset, .unset, .unset, .unset, .unset, .unset] [(.int (7 : Int32)), (.int (x1 &&& (2147483647 : Int32)))]))
  refine own_of (fun _ kk => iremM X7 hx rfl (hb hby at_69) rfl (by decide) kk) ?_
  show own_Fin _ _ _ _ _ _ _ (T7.setTop (mkF m 70 #[.val (.long x0), .second, .val (.int x1), .val (.int x2), .val (.int x3), .val (.int x4), .val (.ref b1), .unset, .unset, .unset, .unset, .unset, .unset, .unset, .unset] [(.int ((x1 &&& (2147483647 : Int32)) % (7 : Int32)))]))
  refine own_of (fun _ kk => XS.istore X7.here hx rfl (hb hby at_70) rfl (l' := #[.val (.long x0), .second, .val (.int x1), .val (.int x2), .val (.int x3), .val (.int x4), .val (.ref b1), .val (.int ((x1 &&& (2147483647 : Int32)) % (7 : Int32))), .unset, .unset, .unset, .unset, .unset, .unset, .unset]) rfl kk) ?_
  show own_Fin _ _ _ _ _ _ _ (T7.setTop (mkF m 72 #[.val (.long x0), .second, .val (.int x1), .val (.int x2), .val (.int x3), .val (.int x4), .val (.ref b1), .val (.int ((x1 &&& (2147483647 : Int32)) % (7 : Int32))), .unset, .unset, .unset, .unset, .unset, .unset, .unset] []))
  show own_Fin _ _ _ _ _ _ _ (T7.setTop (mkF m 72 #[.val (.long x0), .second, .val (.int x1), .val (.int x2), .val (.int x3), .val (.int x4), .val (.ref b1), .val (.int (own_len x1)), .unset, .unset, .unset, .unset, .unset, .unset, .unset] []))
  refine own_of (fun _ kk => XS.iloadN X7.here hx rfl (hb hby at_72) rfl kk) ?_
  show own_Fin _ _ _ _ _ _ _ (T7.setTop (mkF m 73 #[.val (.long x0), .second, .val (.int x1), .val (.int x2), .val (.int x3), .val (.int x4), .val (.ref b1), .val (.int (own_len x1)), .unset, .unset, .unset, .unset, .unset, .unset, .unset] [(.int x2)]))
  refine own_of (fun _ kk => X7.ldcInt hx hown (mvT hZ (hw _ (List.mem_of_getElem? (i := 1) rfl))) (g := (mkF m 73 #[.val (.long x0), .second, .val (.int x1), .val (.int x2), .val (.int x3), .val (.int x4), .val (.ref b1), .val (.int (own_len x1)), .unset, .unset, .unset, .unset, .unset, .unset, .unset] [(.int x2)])) rfl (hb hby at_73) _ kk) ?_
  show own_Fin _ _ _ _ _ _ _ (T7.setTop (mkF m 75 #[.val (.long x0), .second, .val (.int x1), .val (.int x2), .val (.int x3), .val (.int x4), .val (.ref b1), .val (.int (own_len x1)), .unset, .unset, .unset, .unset, .unset, .unset, .unset] [(.int (2147483647 : Int32)), (.int x2)]))
  refine own_of (fun _ kk => XS.iand X7.here hx rfl (hb hby at_75) rfl kk) ?_
  show own_Fin _ _ _ _ _ _ _ (T7.setTop (mkF m 76 #[.val (.long x0), .second, .val (.int x1), .val (.int x2), .val (.int x3), .val (.int x4), .val (.ref b1), .val (.int (own_len x1)), .unset, .unset, .unset, .unset, .unset, .unset, .unset] [(.int (x2 &&& (2147483647 : Int32)))]))
  refine own_of (fun _ kk => XS.iload X7.here hx rfl (hb hby at_76) rfl kk) ?_
  show own_Fin _ _ _ _ _ _ _ (T7.setTop (mkF m 78 #[.val (.long x0), .second, .val (.int x1), .val (.int x2), .val (.int x3), .val (.int x4), .val (.ref b1), .val (.int (own_len x1)), .unset, .unset, .unset, .unset, .unset, .unset, .unset] [(.int (own_len x1)), (.int (x2 &&& (2147483647 : Int32)))]))
  refine own_of (fun _ kk => XS.iconst X7.here hx rfl (hb hby at_78) kk) ?_
  show own_Fin _ _ _ _ _ _ _ (T7.setTop (mkF m 79 #[.val (.long x0), .second, .val (.int x1), .val (.int x2), .val (.int x3), .val (.int x4), .val (.ref b1), .val (.int (own_len x1)), .unset, .unset, .unset, .unset, .unset, .unset, .unset] [(.int (1 : Int32)), (.int (own_len x1)), (.int (x2 &&& (2147483647 : Int32)))]))
  refine own_of (fun _ kk => XS.iadd X7.here hx rfl (hb hby at_79) rfl kk) ?_
  show own_Fin _ _ _ _ _ _ _ (T7.setTop (mkF m 80 #[.val (.long x0), .second, .val (.int x1), .val (.int x2), .val (.int x3), .val (.int x4), .val (.ref b1), .val (.int (own_len x1)), .unset, .unset, .unset, .unset, .unset, .unset, .unset] [(.int ((own_len x1) + (1 : Int32))), (.int (x2 &&& (2147483647 : Int32)))]))
  refine own_of (fun _ kk => iremM X7 hx rfl (hb hby at_80) rfl (own_nz1 x1) kk) ?_
  show own_Fin _ _ _ _ _ _ _ (T7.setTop (mkF m 81 #[.val (.long x0), .second, .val (.int x1), .val (.int x2), .val (.int x3), .val (.int x4), .val (.ref b1), .val (.int (own_len x1)), .unset, .unset, .unset, .unset, .unset, .unset, .unset] [(.int ((x2 &&& (2147483647 : Int32)) % ((own_len x1) + (1 : Int32))))]))
  refine own_of (fun _ kk => XS.istore X7.here hx rfl (hb hby at_81) rfl (l' := #[.val (.long x0), .second, .val (.int x1), .val (.int x2), .val (.int x3), .val (.int x4), .val (.ref b1), .val (.int (own_len x1)), .val (.int ((x2 &&& (2147483647 : Int32)) % ((own_len x1) + (1 : Int32)))), .unset, .unset, .unset, .unset, .unset, .unset]) rfl kk) ?_
  show own_Fin _ _ _ _ _ _ _ (T7.setTop (mkF m 83 #[.val (.long x0), .second, .val (.int x1), .val (.int x2), .val (.int x3), .val (.int x4), .val (.ref b1), .val (.int (own_len x1)), .val (.int ((x2 &&& (2147483647 : Int32)) % ((own_len x1) + (1 : Int32)))), .unset, .unset, .unset, .unset, .unset, .unset] []))
  show own_Fin _ _ _ _ _ _ _ (T7.setTop (mkF m 83 #[.val (.long x0), .second, .val (.int x1), .val (.int x2), .val (.int x3), .val (.int x4), .val (.ref b1), .val (.int (own_len x1)), .val (.int (own_fr x1 x2)), .unset, .unset, .unset, .unset, .unset, .unset] []))
  refine own_of (fun _ kk => XS.iload X7.here hx rfl (hb hby at_83) rfl kk) ?_
  show own_Fin _ _ _ _ _ _ _ (T7.setTop (mkF m 85 #[.val (.long x0), .second, .val (.int x1), .val (.int x2), .val (.int x3), .val (.int x4), .val (.ref b1), .val (.int (own_len x1)), .val (.int (own_fr x1 x2)), .unset, .unset, .unset, .unset, .unset, .unset] [(.int (own_fr x1 x2))]))
  refine own_of (fun _ kk => XS.iload X7.here hx rfl (hb hby at_85) rfl kk) ?_
  show own_Fin _ _ _ _ _ _ _ (T7.setTop (mkF m 87 #[.val (.long x0), .second, .val (.int x1), .val (.int x2), .val (.int x3), .val (.int x4), .val (.ref b1), .val (.int (own_len x1)), .val (.int (own_fr x1 x2)), .unset, .unset, .unset, .unset, .unset, .unset] [(.int x3), (.int (own_fr x1 x2))]))
  refine own_of (fun _ kk => X7.ldcInt hx hown (mvT hZ (hw _ (List.mem_of_getElem? (i := 1) rfl))) (g := (mkF m 87 #[.val (.long x0), .second, .val (.int x1), .val (.int x2), .val (.int x3), .val (.int x4), .val (.ref b1), .val (.int (own_len x1)), .val (.int (own_fr x1 x2)), .unset, .unset, .unset, .unset, .unset, .unset] [(.int x3), (.int (own_fr x1 x2))])) rfl (hb hby at_87) _ kk) ?_
  show own_Fin _ _ _ _ _ _ _ (T7.setTop (mkF m 89 #[.val (.long x0), .second, .val (.int x1), .val (.int x2), .val (.int x3), .val (.int x4), .val (.ref b1), .val (.int (own_len x1)), .val (.int (own_fr x1 x2)), .unset, .unset, .unset, .unset, .unset, .unset] [(.int (2147483647 : Int32)), (.int x3), (.int (own_fr x1 x2))]))
  refine own_of (fun _ kk => XS.iand X7.here hx rfl (hb hby at_89) rfl kk) ?_
  show own_Fin _ _ _ _ _ _ _ (T7.setTop (mkF m 90 #[.val (.long x0), .second, .val (.int x1), .val (.int x2), .val (.int x3), .val (.int x4), .val (.ref b1), .val (.int (own_len x1)), .val (.int (own_fr x1 x2)), .unset, .unset, .unset, .unset, .unset, .unset] [(.int (x3 &&& (2147483647 : Int32))), (.int (own_fr x1 x2))]))
  refine own_of (fun _ kk => XS.iload X7.here hx rfl (hb hby at_90) rfl kk) ?_
  show own_Fin _ _ _ _ _ _ _ (T7.setTop (mkF m 92 #[.val (.long x0), .second, .val (.int x1), .val (.int x2), .val (.int x3), .val (.int x4), .val (.ref b1), .val (.int (own_len x1)), .val (.int (own_fr x1 x2)), .unset, .unset, .unset, .unset, .unset, .unset] [(.int (own_len x1)), (.int (x3 &&& (2147483647 : Int32))), (.int (own_fr x1 x2))]))
  refine own_of (fun _ kk => XS.iload X7.here hx rfl (hb hby at_92) rfl kk) ?_
  show own_Fin _ _ _ _ _ _ _ (T7.setTop (mkF m 94 #[.val (.long x0), .second, .val (.int x1), .val (.int x2), .val (.int x3), .val (.int x4), .val (.ref b1), .val (.int (own_len x1)), .val (.int (own_fr x1 x2)), .unset, .unset, .unset, .unset, .unset, .unset] [(.int (own_fr x1 x2)), (.int (own_len x1)), (.int (x3 &&& (2147483647 : Int32))), (.int (own_fr x1 x2))]))
  refine own_of (fun _ kk => XS.isub X7.here hx rfl (hb hby at_94) rfl kk) ?_
  show own_Fin _ _ _ _ _ _ _ (T7.setTop (mkF m 95 #[.val (.long x0), .second, .val (.int x1), .val (.int x2), .val (.int x3), .val (.int x4), .val (.ref b1), .val (.int (own_len x1)), .val (.int (own_fr x1 x2)), .unset, .unset, .unset, .unset, .unset, .unset] [(.int ((own_len x1) - (own_fr x1 x2))), (.int (x3 &&& (2147483647 : Int32))), (.int (own_fr x1 x2))]))
  refine own_of (fun _ kk => XS.iconst X7.here hx rfl (hb hby at_95) kk) ?_
  show own_Fin _ _ _ _ _ _ _ (T7.setTop (mkF m 96 #[.val (.long x0), .second, .val (.int x1), .val (.int x2), .val (.int x3), .val (.int x4), .val (.ref b1), .val (.int (own_len x1)), .val (.int (own_fr x1 x2)), .unset, .unset, .unset, .unset, .unset, .unset] [(.int (1 : Int32)), (.int ((own_len x1) - (own_fr x1 x2))), (.int (x3 &&& (2147483647 : Int32))), (.int (own_fr x1 x2))]))
  refine own_of (fun _ kk => XS.iadd X7.here hx rfl (hb hby at_96) rfl kk) ?_
  show own_Fin _ _ _ _ _ _ _ (T7.setTop (mkF m 97 #[.val (.long x0), .second, .val (.int x1), .val (.int x2), .val (.int x3), .val (.int x4), .val (.ref b1), .val (.int (own_len x1)), .val (.int (own_fr x1 x2)), .unset, .unset, .unset, .unset, .unset, .unset] [(.int (((own_len x1) - (own_fr x1 x2)) + (1 : Int32))), (.int (x3 &&& (2147483647 : Int32))), (.int (own_fr x1 x2))]))
  refine own_of (fun _ kk => iremM X7 hx rfl (hb hby at_97) rfl (own_nz2 x1 x2) kk) ?_
  show own_Fin _ _ _ _ _ _ _ (T7.setTop (mkF m 98 #[.val (.long x0), .second, .val (.int x1), .val (.int x2), .val (.int x3), .val (.int x4), .val (.ref b1), .val (.int (own_len x1)), .val (.int (own_fr x1 x2)), .unset, .unset, .unset, .unset, .unset, .unset] [(.int ((x3 &&& (2147483647 : Int32)) % (((own_len x1) - (own_fr x1 x2)) + (1 : Int32)))), (.int (own_fr x1 x2))]))
  refine own_of (fun _ kk => XS.iadd X7.here hx rfl (hb hby at_98) rfl kk) ?_
  show own_Fin _ _ _ _ _ _ _ (T7.setTop (mkF m 99 #[.val (.long x0), .second, .val (.int x1), .val (.int x2), .val (.int x3), .val (.int x4), .val (.ref b1), .val (.int (own_len x1)), .val (.int (own_fr x1 x2)), .unset, .unset, .unset, .unset, .unset, .unset] [(.int ((own_fr x1 x2) + ((x3 &&& (2147483647 : Int32)) % (((own_len x1) - (own_fr x1 x2)) + (1 : Int32)))))]))
  refine own_of (fun _ kk => XS.istore X7.here hx rfl (hb hby at_99) rfl (l' := #[.val (.long x0), .second, .val (.int x1), .val (.int x2), .val (.int x3), .val (.int x4), .val (.ref b1), .val (.int (own_len x1)), .val (.int (own_fr x1 x2)), .val (.int ((own_fr x1 x2) + ((x3 &&& (2147483647 : Int32)) % (((own_len x1) - (own_fr x1 x2)) + (1 : Int32))))), .unset, .unset, .unset, .unset, .unset]) rfl kk) ?_
  show own_Fin _ _ _ _ _ _ _ (T7.setTop (mkF m 101 #[.val (.long x0), .second, .val (.int x1), .val (.int x2), .val (.int x3), .val (.int x4), .val (.ref b1), .val (.int (own_len x1)), .val (.int (own_fr x1 x2)), .val (.int ((own_fr x1 x2) + ((x3 &&& (2147483647 : Int32)) % (((own_len x1) - (own_fr x1 x2)) + (1 : Int32))))), .unset, .unset, .unset, .unset, .unset] []))
  show own_Fin _ _ _ _ _ _ _ (T7.setTop (mkF m 101 #[.val (.long x0), .second, .val (.int x1), .val (.int x2), .val (.int x3), .val (.int x4), .val (.ref b1), .val (.int (own_len x1)), .val (.int (own_fr x1 x2)), .val (.int (own_to x1 x2 x3)), .unset, .unset, .unset, .unset, .unset] []))
  refine own_of (fun _ kk => XS.iload X7.here hx rfl (hb hby at_101) rfl kk) ?_
  show own_Fin _ _ _ _ _ _ _ (T7.setTop (mkF m 103 #[.val (.long x0), .second, .val (.int x1), .val (.int x2), .val (.int x3), .val (.int x4), .val (.ref b1), .val (.int (own_len x1)), .val (.int (own_fr x1 x2)), .val (.int (own_to x1 x2 x3)), .unset, .unset, .unset, .unset, .unset] [(.int x4)]))
  refine own_of (fun _ kk => XS.i2c X7.here hx rfl (hb hby at_103) rfl kk) ?_
  show own_Fin _ _ _ _ _ _ _ (T7.setTop (mkF m 104 #[.val (.long x0), .second, .val (.int x1), .val (.int x2), .val (.int x3), .val (.int x4), .val (.ref b1), .val (.int (own_len x1)), .val (.int (own_fr x1 x2)), .val (.int (own_to x1 x2 x3)), .unset, .unset, .unset, .unset, .unset] [(.int (own_i2c x4))]))
  refine own_of (fun _ kk => XS.istore X7.here hx rfl (hb hby at_104) rfl (l' := #[.val (.long x0), .second, .val (.int x1), .val (.int x2), .val (.int x3), .val (.int x4), .val (.ref b1), .val (.int (own_len x1)), .val (.int (own_fr x1 x2)), .val (.int (own_to x1 x2 x3)), .val (.int (own_i2c x4)), .unset, .unset, .unset, .unset]) rfl kk) ?_
  show own_Fin _ _ _ _ _ _ _ (T7.setTop (mkF m 106 #[.val (.long x0), .second, .val (.int x1), .val (.int x2), .val (.int x3), .val (.int x4), .val (.ref b1), .val (.int (own_len x1)), .val (.int (own_fr x1 x2)), .val (.int (own_to x1 x2 x3)), .val (.int (own_i2c x4)), .unset, .unset, .unset, .unset] []))
  refine own_of (fun _ kk => XS.bipush X7.here hx rfl (hb hby at_106) kk) ?_
  show own_Fin _ _ _ _ _ _ _ (T7.setTop (mkF m 108 #[.val (.long x0), .second, .val (.int x1), .val (.int x2), .val (.int x3), .val (.int x4), .val (.ref b1), .val (.int (own_len x1)), .val (.int (own_fr x1 x2)), .val (.int (own_to x1 x2 x3)), .val (.int (own_i2c x4)), .unset, .unset, .unset, .unset] [(.int (6 : Int32))]))
  refine own_newP X7 hx hZ (hw _ (List.mem_of_getElem? (i := 2) rfl)) e7 (hb hby at_108) (n := 6) (by decide) (cap := 6) (Nat.le_refl _) (by decide) (by decide) (by decide) ?_
  intro T8 h8 b8 X8 e8 E8 g8 A8
  have ne_b1_b8 : b1 ≠ b8 := Nat.ne_of_lt (by rw [g8]; exact A7.lt)
  replace A7 := A7.ext E8
  have Z8 : n0 ≤ h8.size := Nat.le_trans ZW7 E8.1
  have ge_b8 : n0 ≤ b8 := by rw [g8]; exact ZW7
  replace A8 : own_Arf Z h8 b8 .char 6 (fun _ => (.int (0 : Int32))) := A8
  show own_Fin _ _ _ _ _ _ _ (T8.setTop (mkF m 110 #[.val (.long x0), .second, .val (.int x1), .val (.int x2), .val (.int x3), .val (.int x4), .val (.ref b1), .val (.int (own_len x1)), .val (.int (own_fr x1 x2)), .val (.int (own_to x1 x2 x3)), .val (.int (own_i2c x4)), .unset, .unset, .unset, .unset] [(.ref b8)]))
  refine own_of (fun _ kk => XS.astore X8.here hx rfl (hb hby at_110) rfl rfl (l' := #[.val (.long x0), .second, .val (.int x1), .val (.int x2), .val (.int x3), .val (.int x4), .val (.ref b1), .val (.int (own_len x1)), .val (.int (own_fr x1 x2)), .val (.int (own_to x1 x2 x3)), .val (.int (own_i2c x4)), .val (.ref b8), .unset, .unset, .unset]) rfl kk) ?_
  show own_Fin _ _ _ _ _ _ _ (T8.setTop (mkF m 112 #[.val (.long x0), .second, .val (.int x1), .val (.int x2), .val (.int x3), .val (.int x4), .val (.ref b1), .val (.int (own_len x1)), .val (.int (own_fr x1 x2)), .val (.int (own_to x1 x2 x3)), .val (.int (own_i2c x4)), .val (.ref b8), .unset, .unset, .unset] []))
  refine own_of (fun _ kk => XS.aload X8.here hx rfl (hb hby at_112) rfl rfl kk) ?_
  show own_Fin _ _ _ _ _ _ _ (T8.setTop (mkF m 114 #[.val (.long x0), .second, .val (.int x1), .val (.int x2), .val (.int x3), .val (.int x4), .val (.ref b1), .val (.int (own_len x1)), .val (.int (own_fr x1 x2)), .val (.int (own_to x1 x2 x3)), .val (.int (own_i2c x4)), .val (.ref b8), .unset, .unset, .unset] [(.ref b8)]))
  refine own_of (fun _ kk => XS.iconst X8.here hx rfl (hb hby at_114) kk) ?_
  show own_Fin _ _ _ _ _ _ _ (T8.setTop (mkF m 115 #[.val (.long x0), .second, .val (.int x1), .val (.int x2), .val (.int x3), .val (.int x4), .val (.ref b1), .val (.int (own_len x1)), .val (.int (own_fr x1 x2)), .val (.int (own_to x1 x2 x3)), .val (.int (own_i2c x4)), .val (.ref b8), .unset, .unset, .unset] [(.int (0 : Int32)), (.ref b8)]))
  refine own_of (fun _ kk => XS.iload X8.here hx rfl (hb hby at_115) rfl kk) ?_
  show own_Fin _ _ _ _ _ _ _ (T8.setTop (mkF m 117 #[.val (.long x0), .second, .val (.int x1), .val (.int x2), .val (.int x3), .val (.int x4), .val (.ref b1), .val (.int (own_len x1)), .val (.int (own_fr x1 x2)), .val (.int (own_to x1 x2 x3)), .val (.int (own_i2c x4)), .val (.ref b8), .unset, .unset, .unset] [(.int (own_i2c x4)), (.int (0 : Int32)), (.ref b8)]))
  refine own_castore X8 hx hZ e8 A8 N7 ge_b8 (i := 0) (by decide) (by decide) (hb hby at_117) ?_
  intro T9 h9 l9 X9 N9 e9 W9 A9
  replace A9 : own_Arf Z h9 b8 .char 6 (fun j => if j = 0 then (.int (own_i2c (own_i2c x4))) else (fun _ => (.int (0 : Int32))) j) := A9
  have ZW9 : n0 ≤ h9.size := by rw [Wr.size W9]; exact Z8
  replace A7 := A7.other W9 ne_b1_b8
  show own_Fin _ _ _ _ _ _ _ (T9.setTop (mkF m 118 #[.val (.long x0), .second, .val (.int x1), .val (.int x2), .val (.int x3), .val (.int x4), .val (.ref b1), .val (.int (own_len x1)), .val (.int (own_fr x1 x2)), .val (.int (own_to x1 x2 x3)), .val (.int (own_i2c x4)), .val (.ref b8), .unset, .unset, .unset] []))
  refine own_of (fun _ kk => XS.aload X9.here hx rfl (hb hby at_118) rfl rfl kk) ?_
  show own_Fin _ _ _ _ _ _ _ (T9.setTop (mkF m 120 #[.val (.long x0), .second, .val (.int x1), .val (.int x2), .val (.int x3), .val (.int x4), .val (.ref b1), .val (.int (own_len x1)), .val (.int (own_fr x1 x2)), .val (.int (own_to x1 x2 x3)), .val (.int (own_i2c x4)), .val (.ref b8), .unset, .unset, .unset] [(.ref b8)]))
  refine own_of (fun _ kk => XS.iconst X9.here hx rfl (hb hby at_120) kk) ?_
  show own_Fin _ _ _ _ _ _ _ (T9.setTop (mkF m 121 #[.val (.long x0), .second, .val (.int x1), .val (.int x2), .val (.int x3), .val (.int x4), .val (.ref b1), .val (.int (own_len x1)), .val (.int (own_fr x1 x2)), .val (.int (own_to x1 x2 x3)), .val (.int (own_i2c x4)), .val (.ref b8), .unset, .unset, .unset] [(.int (1 : Int32)), (.ref b8)]))
  refine own_of (fun _ kk => XS.iload X9.here hx rfl (hb hby at_121) rfl kk) ?_
  show own_Fin _ _ _ _ _ _ _ (T9.setTop (mkF m 123 #[.val (.long x0), .second, .val (.int x1), .val (.int x2), .val (.int x3), .val (.int x4), .val (.ref b1), .val (.int (own_len x1)), .val (.int (own_fr x1 x2)), .val (.int (own_to x1 x2 x3)), .val (.int (own_i2c x4)), .val (.ref b8), .unset, .unset, .unset] [(.int (own_i2c x4)), (.int (1 : Int32)), (.ref b8)]))
  refine own_castore X9 hx hZ e9 A9 N9 ge_b8 (i := 1) (by decide) (by decide) (hb hby at_123) ?_
  intro T10 h10 l10 X10 N10 e10 W10 A10
  replace A10 : own_Arf Z h10 b8 .char 6 (fun j => if j = 1 then (.int (own_i2c (own_i2c x4))) else (fun j => if j = 0 then (.int (own_i2c (own_i2c x4))) else (fun _ => (.int (0 : Int32))) j) j) := A10
  have ZW10 : n0 ≤ h10.size := by rw [Wr.size W10]; exact ZW9
  replace A7 := A7.other W10 ne_b1_b8
  show own_Fin _ _ _ _ _ _ _ (T10.setTop (mkF m 124 #[.val (.long x0), .second, .val (.int x1), .val (.int x2), .val (.int x3), .val (.int x4), .val (.ref b1), .val (.int (own_len x1)), .val (.int (own_fr x1 x2)), .val (.int (own_to x1 x2 x3)), .val (.int (own_i2c x4)), .val (.ref b8), .unset, .unset, .unset] []))
  refine own_of (fun _ kk => XS.aload X10.here hx rfl (hb hby at_124) rfl rfl kk) ?_
  show own_Fin _ _ _ _ _ _ _ (T10.setTop (mkF m 126 #[.val (.long x0), .second, .val (.int x1), .val (.int x2), .val (.int x3), .val (.int x4), .val (.ref b1), .val (.int (own_len x1)), .val (.int (own_fr x1 x2)), .val (.int (own_to x1 x2 x3)), .val (.int (own_i2c x4)), .val (.ref b8), .unset, .unset, .unset] [(.ref b8)]))
  refine own_of (fun _ kk => XS.iconst X10.here hx rfl (hb hby at_126) kk) ?_
  show own_Fin _ _ _ _ _ _ _ (T10.setTop (mkF m 127 #[.val (.long x0), .second, .val (.int x1), .val (.int x2), .val (.int x3), .val (.int x4), .val (.ref b1), .val (.int (own_len x1)), .val (.int (own_fr x1 x2)), .val (.int (own_to x1 x2 x3)), .val (.int (own_i2c x4)), .val (.ref b8), .unset, .unset, .unset] [(.int (2 : Int32)), (.ref b8)]))
  refine own_of (fun _ kk => XS.iload X10.here hx rfl (hb hby at_127) rfl kk) ?_
  show own_Fin _ _ _ _ _ _ _ (T10.setTop (mkF m 129 #[.val (.long x0), .second, .val (.int x1), .val (.int x2), .val (.int x3), .val (.int x4), .val (.ref b1), .val (.int (own_len x1)), .val (.int (own_fr x1 x2)), .val (.int (own_to x1 x2 x3)), .val (.int (own_i2c x4)), .val (.ref b8), .unset, .unset, .unset] [(.int (own_i2c x4)), (.int (2 : Int32)), (.ref b8)]))
  refine own_castore X10 hx hZ e10 A10 N10 ge_b8 (i := 2) (by decide) (by decide) (hb hby at_129) ?_
  intro T11 h11 l11 X11 N11 e11 W11 A11
  replace A11 : own_Arf Z h11 b8 .char 6 (fun j => if j = 2 then (.int (own_i2c (own_i2c x4))) else (fun j => if j = 1 then (.int (own_i2c (own_i2c x4))) else (fun j => if j = 0 then (.int (own_i2c (own_i2c x4))) else (fun _ => (.int (0 : Int32))) j) j) j) := A11
  have ZW11 : n0 ≤ h11.size := by rw [Wr.size W11]; exact ZW10
  replace A7 := A7.other W11 ne_b1_b8
  show own_Fin _ _ _ _ _ _ _ (T11.setTop (mkF m 130 #[.val (.long x0), .second, .val (.int x1), .val (.int x2), .val (.int x3), .val (.int x4), .val (.ref b1), .val (.int (own_len x1)), .val (.int (own_fr x1 x2)), .val (.int (own_to x1 x2 x3)), .val (.int (own_i2c x4)), .val (.ref b8), .unset, .unset, .unset] []))
  refine own_of (fun _ kk => XS.aload X11.here hx rfl (hb hby at_130) rfl rfl kk) ?_
  show own_Fin _ _ _ _ _ _ _ (T11.setTop (mkF m 132 #[.val (.long x0), .second, .val (.int x1), .val (.int x2), .val (.int x3), .val (.int x4), .val (.ref b1), .val (.int (own_len x1)), .val (.int (own_fr x1 x2)), .val (.int (own_to x1 x2 x3)), .val (.int (own_i2c x4)), .val (.ref b8), .unset, .unset, .unset] [(.ref b8)]))
  refine own_of (fun _ kk => XS.iconst X11.here hx rfl (hb hby at_132) kk) ?_
  show own_Fin _ _ _ _ _ _ _ (T11.setTop (mkF m 133 #[.val (.long x0), .second, .val (.int x1), .val (.int x2), .val (.int x3), .val (.int x4), .val (.ref b1), .val (.int (own_len x1)), .val (.int (own_fr x1 x2)), .val (.int (own_to x1 x2 x3)), .val (.int (own_i2c x4)), .val (.ref b8), .unset, .unset, .unset] [(.int (3 : Int32)), (.ref b8)]))
  refine own_of (fun _ kk => XS.iload X11.here hx rfl (hb hby at_133) rfl kk) ?_
  show own_Fin _ _ _ _ _ _ _ (T11.setTop (mkF m 135 #[.val (.long x0), .second, .val (.int x1), .val (.int x2), .val (.int x3), .val (.int x4), .val (.ref b1), .val (.int (own_len x1)), .val (.int (own_fr x1 x2)), .val (.int (own_to x1 x2 x3)), .val (.int (own_i2c x4)), .val (.ref b8), .unset, .unset, .unset] [(.int (own_i2c x4)), (.int (3 : Int32)), (.ref b8)]))
  refine own_castore X11 hx hZ e11 A11 N11 ge_b8 (i := 3) (by decide) (by decide) (hb hby at_135) ?_
  intro T12 h12 l12 X12 N12 e12 W12 A12
  replace A12 : own_Arf Z h12 b8 .char 6 (fun j => if j = 3 then (.int (own_i2c (own_i2c x4))) else (fun j => if j = 2 then (.int (own_i2c (own_i2c x4))) else (fun j => if j = 1 then (.int (own_i2c (own_i2c x4))) else (fun j => if j = 0 then (.int (own_i2c (own_i2c x4))) else (fun _ => (.int (0 : Int32))) j) j) j) j) := A12
  have ZW12 : n0 ≤ h12.size := by rw [Wr.size W12]; exact ZW11
  replace A7 := A7.other W12 ne_b1_b8
  show own_Fin _ _ _ _ _ _ _ (T12.setTop (mkF m 136 #[.val (.long x0), .second, .val (.int x1), .val (.int x2), .val (.int x3), .val (.int x4), .val (.ref b1), .val (.int (own_len x1)), .val (.int (own_fr x1 x2)), .val (.int (own_to x1 x2 x3)), .val (.int (own_i2c x4)), .val (.ref b8), .unset, .unset, .unset] []))
  refine own_of (fun _ kk => XS.aload X12.here hx rfl (hb hby at_136) rfl rfl kk) ?_
  show own_Fin _ _ _ _ _ _ _ (T12.setTop (mkF m 138 #[.val (.long x0), .second, .val (.int x1), .val (.int x2), .val (.int x3), .val (.int x4), .val (.ref b1), .val (.int (own_len x1)), .val (.int (own_fr x1 x2)), .val (.int (own_to x1 x2 x3)), .val (.int (own_i2c x4)), .val (.ref b8), .unset, .unset, .unset] [(.ref b8)]))
  refine own_of (fun _ kk => XS.iconst X12.here hx rfl (hb hby at_138) kk) ?_
  show own_Fin _ _ _ _ _ _ _ (T12.setTop (mkF m 139 #[.val (.long x0), .second, .val (.int x1), .val (.int x2), .val (.int x3), .val (.int x4), .val (.ref b1), .val (.int (own_len x1)), .val (.int (own_fr x1 x2)), .val (.int (own_to x1 x2 x3)), .val (.int (own_i2c x4)), .val (.ref b8), .unset, .unset, .unset] [(.int (4 : Int32)), (.ref b8)]))
  refine own_of (fun _ kk => XS.iload X12.here hx rfl (hb hby at_139) rfl kk) ?_
  show own_Fin _ _ _ _ _ _ _ (T12.setTop (mkF m 141 #[.val (.long x0), .second, .val (.int x1), .val (.int x2), .val (.int x3), .val (.int x4), .val (.ref b1), .val (.int (own_len x1)), .val (.int (own_fr x1 x2)), .val (.int (own_to x1 x2 x3)), .val (.int (own_i2c x4)), .val (.ref b8), .unset, .unset, .unset] [(.int (own_i2c x4)), (.int (4 : Int32)), (.ref b8)]))
  refine own_castore X12 hx hZ e12 A12 N12 ge_b8 (i := 4) (by decide) (by decide) (hb hby at_141) ?_
  intro T13 h13 l13 X13 N13 e13 W13 A13
  replace A13 : own_Arf Z h13 b8 .char 6 (fun j => if j = 4 then (.int (own_i2c (own_i2c x4))) else (fun j => if j = 3 then (.int (own_i2c (own_i2c x4))) else (fun j => if j = 2 then (.int (own_i2c (own_i2c x4))) else (fun j => if j = 1 then (.int (own_i2c (own_i2c x4))) else (fun j => if j = 0 then (.int (own_i2c (own_i2c x4))) else (fun _ => (.int (0 : Int32))) j) j) j) j) j) := A13
  have ZW13 : n0 ≤ h13.size := by rw [Wr.size W13]; exact ZW12
  replace A7 := A7.other W13 ne_b1_b8
  show own_Fin _ _ _ _ _ _ _ (T13.setTop (mkF m 142 #[.val (.long x0), .second, .val (.int x1), .val (.int x2), .val (.int x3), .val (.int x4), .val (.ref b1), .val (.int (own_len x1)), .val (.int (own_fr x1 x2)), .val (.int (own_to x1 x2 x3)), .val (.int (own_i2c x4)), .val (.ref b8), .unset, .unset, .unset] []))
  refine own_of (fun _ kk => XS.aload X13.here hx rfl (hb hby at_142) rfl rfl kk) ?_
  show own_Fin _ _ _ _ _ _ _ (T13.setTop (mkF m 144 #[.val (.long x0), .second, .val (.int x1), .val (.int x2), .val (.int x3), .val (.int x4), .val (.ref b1), .val (.int (own_len x1)), .val (.int (own_fr x1 x2)), .val (.int (own_to x1 x2 x3)), .val (.int (own_i2c x4)), .val (.ref b8), .unset, .unset, .unset] [(.ref b8)]))
  refine own_of (fun _ kk => XS.iconst X13.here hx rfl (hb hby at_144) kk) ?_
  show own_Fin _ _ _ _ _ _ _ (T13.setTop (mkF m 145 #[.val (.long x0), .second, .val (.int x1), .val (.int x2), .val (.int x3), .val (.int x4), .val (.ref b1), .val (.int (own_len x1)), .val (.int (own_fr x1 x2)), .val (.int (own_to x1 x2 x3)), .val (.int (own_i2c x4)), .val (.ref b8), .unset, .unset, .unset] [(.int (5 : Int32)), (.ref b8)]))
  refine own_of (fun _ kk => XS.iload X13.here hx rfl (hb hby at_145) rfl kk) ?_
  show own_Fin _ _ _ _ _ _ _ (T13.setTop (mkF m 147 #[.val (.long x0), .second, .val (.int x1), .val (.int x2), .val (.int x3), .val (.int x4), .val (.ref b1), .val (.int (own_len x1)), .val (.int (own_fr x1 x2)), .val (.int (own_to x1 x2 x3)), .val (.int (own_i2c x4)), .val (.ref b8), .unset, .unset, .unset] [(.int (own_i2c x4)), (.int (5 : Int32)), (.ref b8)]))
  refine own_castore X13 hx hZ e13 A13 N13 ge_b8 (i := 5) (by decide) (by decide) (hb hby at_147) ?_
  intro T14 h14 l14 X14 N14 e14 W14 A14
  replace A14 : own_Arf Z h14 b8 .char 6 (fun j => if j = 5 then (.int (own_i2c (own_i2c x4))) else (fun j => if j = 4 then (.int (own_i2c (own_i2c x4))) else (fun j => if j = 3 then (.int (own_i2c (own_i2c x4))) else (fun j => if j = 2 then (.int (own_i2c (own_i2c x4))) else (fun j => if j = 1 then (.int (own_i2c (own_i2c x4))) else (fun j => if j = 0 then (.int (own_i2c (own_i2c x4))) else (fun _ => (.int (0 : Int32))) j) j) j) j) j) j) := A14
  have ZW14 : n0 ≤ h14.size := by rw [Wr.size W14]; exact ZW13
  replace A7 := A7.other W14 ne_b1_b8
  show own_Fin _ _ _ _ _ _ _ (T14.setTop (mkF m 148 #[.val (.long x0), .second, .val (.int x1), .val (.int x2), .val (.int x3), .val (.int x4), .val (.ref b1), .val (.int (own_len x1)), .val (.int (own_fr x1 x2)), .val (.int (own_to x1 x2 x3)), .val (.int (own_i2c x4)), .val (.ref b8), .unset, .unset, .unset] []))
  refine own_newO X14 hx hZ hown (hw _ (List.mem_of_getElem? (i := 3) rfl)) (hw _ (List.mem_of_getElem? (i := 4) rfl)) (hw _ (List.mem_of_getElem? (i := 5) rfl)) e14 (hb hby at_148) (by decide) (by decide) ?_
  intro T15 h15 b15 X15 e15 E15 g15 A15 D15
  have ne_b1_b15 : b1 ≠ b15 := Nat.ne_of_lt (by rw [g15]; exact A7.lt)
  have ne_b8_b15 : b8 ≠ b15 := Nat.ne_of_lt (by rw [g15]; exact A14.lt)
  replace A7 := A7.ext E15
  replace A14 := A14.ext E15
  have Z15 : n0 ≤ h15.size := Nat.le_trans ZW14 E15.1
  have ge_b15 : n0 ≤ b15 := by rw [g15]; exact ZW14
  have Fb15_bytes : Fld Z h15 b15 "com/example/needle_in_text/needleintext/text/ByteText" "bytes" "[B" .null := D15 (Or.inl (hw _ (List.mem_of_getElem? (i := 18) rfl))) (ty := (.array .byte)) (by decide)
  have Fb15_length : Fld Z h15 b15 "com/example/needle_in_text/needleintext/text/ByteText" "length" "I" (.int (0 : Int32)) := D15 (Or.inl (hw _ (List.mem_of_getElem? (i := 20) rfl))) (ty := .int) (by decide)
  show own_Fin _ _ _ _ _ _ _ (T15.setTop (mkF m 151 #[.val (.long x0), .second, .val (.int x1), .val (.int x2), .val (.int x3), .val (.int x4), .val (.ref b1), .val (.int (own_len x1)), .val (.int (own_fr x1 x2)), .val (.int (own_to x1 x2 x3)), .val (.int (own_i2c x4)), .val (.ref b8), .unset, .unset, .unset] [(.ref b15)]))
  refine own_of (fun _ kk => XS.dup X15.here hx rfl (hb hby at_151) rfl rfl kk) ?_
  show own_Fin _ _ _ _ _ _ _ (T15.setTop (mkF m 152 #[.val (.long x0), .second, .val (.int x1), .val (.int x2), .val (.int x3), .val (.int x4), .val (.ref b1), .val (.int (own_len x1)), .val (.int (own_fr x1 x2)), .val (.int (own_to x1 x2 x3)), .val (.int (own_i2c x4)), .val (.ref b8), .unset, .unset, .unset] [(.ref b15), (.ref b15)]))
  refine own_of (fun _ kk => XS.aload X15.here hx rfl (hb hby at_152) rfl rfl kk) ?_
  show own_Fin _ _ _ _ _ _ _ (T15.setTop (mkF m 154 #[.val (.long x0), .second, .val (.int x1), .val (.int x2), .val (.int x3), .val (.int x4), .val (.ref b1), .val (.int (own_len x1)), .val (.int (own_fr x1 x2)), .val (.int (own_to x1 x2 x3)), .val (.int (own_i2c x4)), .val (.ref b8), .unset, .unset, .unset] [(.ref b1), (.ref b15), (.ref b15)]))
  refine own_of (fun _ kk => XS.iload X15.here hx rfl (hb hby at_154) rfl kk) ?_
  show own_Fin _ _ _ _ _ _ _ (T15.setTop (mkF m 156 #[.val (.long x0), .second, .val (.int x1), .val (.int x2), .val (.int x3), .val (.int x4), .val (.ref b1), .val (.int (own_len x1)), .val (.int (own_fr x1 x2)), .val (.int (own_to x1 x2 x3)), .val (.int (own_i2c x4)), .val (.ref b8), .unset, .unset, .unset] [(.int (own_len x1)), (.ref b1), (.ref b15), (.ref b15)]))
  refine own_callC X15 hx hZ (y := (⟨"com/example/needle_in_text/needleintext/text/ByteText", "<init>", "([BI)V"⟩ : MethodName)) rfl hown (hw _ (List.mem_of_getElem? (i := 6) rfl)) (hw _ (List.mem_of_getElem? (i := 7) rfl)) (hw _ (List.mem_of_getElem? (i := 5) rfl)) (hw _ (List.mem_of_getElem? (i := 8) rfl)) (by decide) e15 (argsL := [(.ref b1), (.int (own_len x1))]) (met1 l Z a0 hw b15 b1 (own_len x1) 6 (own_fb x0) h15 n0 Z15 A15 Fb15_bytes Fb15_length (A7.congr fun j _ => by dsimp only [own_fb]; (repeat' split) <;> rfl) (Ne.symm ne_b1_b15) ge_b15 ge_b1) (W := 1) (by decide) (by decide) (by decide) (by decide) (by rw [hml]; rfl) pd_5 rfl (rest := [(.ref b15)]) rfl (Nat.le_of_eq rfl) (hb hby at_156) ?_
  intro v16 T16 h16 L16 X16 e16 q16
  obtain ⟨rfl, N16q, Z16, O16, K16⟩ := q16
  have N16 := Fr.app N14 N16q
  show own_Fin _ _ _ _ _ _ _ (T16.setTop (mkF m 159 #[.val (.long x0), .second, .val (.int x1), .val (.int x2), .val (.int x3), .val (.int x4), .val (.ref b1), .val (.int (own_len x1)), .val (.int (own_fr x1 x2)), .val (.int (own_to x1 x2 x3)), .val (.int (own_i2c x4)), .val (.ref b8), .unset, .unset, .unset] [(.ref b15)]))
  replace A14 := A14.keep K16 (ninS ne_b8_b15 nin0)
  refine own_of (fun _ kk => XS.astore X16.here hx rfl (hb hby at_159) rfl rfl (l' := #[.val (.long x0), .second, .val (.int x1), .val (.int x2), .val (.int x3), .val (.int x4), .val (.ref b1), .val (.int (own_len x1)), .val (.int (own_fr x1 x2)), .val (.int (own_to x1 x2 x3)), .val (.int (own_i2c x4)), .val (.ref b8), .val (.ref b15), .unset, .unset]) rfl kk) ?_
  show own_Fin _ _ _ _ _ _ _ (T16.setTop (mkF m 161 #[.val (.long x0), .second, .val (.int x1), .val (.int x2), .val (.int x3), .val (.int x4), .val (.ref b1), .val (.int (own_len x1)), .val (.int (own_fr x1 x2)), .val (.int (own_to x1 x2 x3)), .val (.int (own_i2c x4)), .val (.ref b8), .val (.ref b15), .unset, .unset] []))
  refine own_of (fun _ kk => XS.aload X16.here hx rfl (hb hby at_161) rfl rfl kk) ?_
  show own_Fin _ _ _ _ _ _ _ (T16.setTop (mkF m 163 #[.val (.long x0), .second, .val (.int x1), .val (.int x2), .val (.int x3), .val (.int x4), .val (.ref b1), .val (.int (own_len x1)), .val (.int (own_fr x1 x2)), .val (.int (own_to x1 x2 x3)), .val (.int (own_i2c x4)), .val (.ref b8), .val (.ref b15), .unset, .unset] [(.ref b15)]))
  refine own_of (fun _ kk => XS.iload X16.here hx rfl (hb hby at_163) rfl kk) ?_
  show own_Fin _ _ _ _ _ _ _ (T16.setTop (mkF m 165 #[.val (.long x0), .second, .val (.int x1), .val (.int x2), .val (.int x3), .val (.int x4), .val (.ref b1), .val (.int (own_len x1)), .val (.int (own_fr x1 x2)), .val (.int (own_to x1 x2 x3)), .val (.int (own_i2c x4)), .val (.ref b8), .val (.ref b15), .unset, .unset] [(.int (own_fr x1 x2)), (.ref b15)]))
  refine own_of (fun _ kk => XS.iload X16.here hx rfl (hb hby at_165) rfl kk) ?_
  show own_Fin _ _ _ _ _ _ _ (T16.setTop (mkF m 167 #[.val (.long x0), .second, .val (.int x1), .val (.int x2), .val (.int x3), .val (.int x4), .val (.ref b1), .val (.int (own_len x1)), .val (.int (own_fr x1 x2)), .val (.int (own_to x1 x2 x3)), .val (.int (own_i2c x4)), .val (.ref b8), .val (.ref b15), .unset, .unset] [(.int (own_to x1 x2 x3)), (.int (own_fr x1 x2)), (.ref b15)]))
  refine own_of (fun _ kk => XS.aload X16.here hx rfl (hb hby at_167) rfl rfl kk) ?_
  show own_Fin _ _ _ _ _ _ _ (T16.setTop (mkF m 169 #[.val (.long x0), .second, .val (.int x1), .val (.int x2), .val (.int x3), .val (.int x4), .val (.ref b1), .val (.int (own_len x1)), .val (.int (own_fr x1 x2)), .val (.int (own_to x1 x2 x3)), .val (.int (own_i2c x4)), .val (.ref b8), .val (.ref b15), .unset, .unset] [(.ref b8), (.int (own_to x1 x2 x3)), (.int (own_fr x1 x2)), (.ref b15)]))
  refine own_callV X16 hx hZ (y := (⟨"com/example/needle_in_text/needleintext/text/ByteText", "copySymbols", "(II[C)Z"⟩ : MethodName)) (z := (⟨"com/example/needle_in_text/needleintext/text/ByteText", "copySymbols", "(II[C)Z"⟩ : MethodName)) hown (hw _ (List.mem_of_getElem? (i := 21) rfl)) (hw _ (List.mem_of_getElem? (i := 22) rfl)) (notFace_of_selects (args := #[]) (mvT hZ (hw _ (List.mem_of_getElem? (i := 24) rfl)))) (hw _ (List.mem_of_getElem? (i := 24) rfl)) (hw _ (List.mem_of_getElem? (i := 23) rfl)) (hw _ (List.mem_of_getElem? (i := 5) rfl)) (hw _ (List.mem_of_getElem? (i := 25) rfl)) (by decide) e16 O16.1 (argsL := [(.int (own_fr x1 x2)), (.int (own_to x1 x2 x3)), (.ref b8)]) (met4 l Z a0 hw b15 (own_fr x1 x2) (own_to x1 x2 x3) b8 b1 (own_len x1) 6 (own_fb x0) (fun _ => own_i2c (own_i2c x4)) (own_F x1 x2) (own_N x1 x2 x3) h16 n0 Z16 (Int.toNat_of_nonneg (own_frr x1 x2).1).symm (own_hT x1 x2 x3) (own_hnb x1 x2 x3) (by have := own_hnb x1 x2 x3; omega) (by have := own_hnb x1 x2 x3; omega) O16.2.2.2.2.1 (Ne.symm ne_b8_b15) ne_b1_b8 ge_b15 ge_b1 ge_b8 (own_g1 x1 x2) (own_g2 x1 x2 x3) (own_g3 x1 x2 x3) O16 (A14.congr fun j hj => by rcases (show j = 0 ∨ j = 1 ∨ j = 2 ∨ j = 3 ∨ j = 4 ∨ j = 5 by omega) with rfl | rfl | rfl | rfl | rfl | rfl <;> rfl)) (W := 0) (by decide) (by decide) (by decide) (by decide) (by rw [hml]; rfl) pd_3 rfl (rest := []) rfl (Nat.le_of_eq rfl) (hb hby at_169) ?_
  intro v17 T17 h17 L17 X17 e17 q17
  obtain ⟨rfl, N17q, Z17, O17, C17⟩ := q17
  have N17 := Fr.app N16 N17q
  show own_Fin _ _ _ _ _ _ _ (T17.setTop (mkF m 172 #[.val (.long x0), .second, .val (.int x1), .val (.int x2), .val (.int x3), .val (.int x4), .val (.ref b1), .val (.int (own_len x1)), .val (.int (own_fr x1 x2)), .val (.int (own_to x1 x2 x3)), .val (.int (own_i2c x4)), .val (.ref b8), .val (.ref b15), .unset, .unset] [(.int (0 : Int32))]))
  refine own_of (fun _ kk => XS.istore X17.here hx rfl (hb hby at_172) rfl (l' := #[.val (.long x0), .second, .val (.int x1), .val (.int x2), .val (.int x3), .val (.int x4), .val (.ref b1), .val (.int (own_len x1)), .val (.int (own_fr x1 x2)), .val (.int (own_to x1 x2 x3)), .val (.int (own_i2c x4)), .val (.ref b8), .val (.ref b15), .val (.int (0 : Int32)), .unset]) rfl kk) ?_
  show own_Fin _ _ _ _ _ _ _ (T17.setTop (mkF m 174 #[.val (.long x0), .second, .val (.int x1), .val (.int x2), .val (.int x3), .val (.int x4), .val (.ref b1), .val (.int (own_len x1)), .val (.int (own_fr x1 x2)), .val (.int (own_to x1 x2 x3)), .val (.int (own_i2c x4)), .val (.ref b8), .val (.ref b15), .val (.int (0 : Int32)), .unset] []))
  refine own_of (fun _ kk => XS.iload X17.here hx rfl (hb hby at_174) rfl kk) ?_
  show own_Fin _ _ _ _ _ _ _ (T17.setTop (mkF m 176 #[.val (.long x0), .second, .val (.int x1), .val (.int x2), .val (.int x3), .val (.int x4), .val (.ref b1), .val (.int (own_len x1)), .val (.int (own_fr x1 x2)), .val (.int (own_to x1 x2 x3)), .val (.int (own_i2c x4)), .val (.ref b8), .val (.ref b15), .val (.int (0 : Int32)), .unset] [(.int (own_to x1 x2 x3))]))
  refine own_of (fun _ kk => XS.iload X17.here hx rfl (hb hby at_176) rfl kk) ?_
  show own_Fin _ _ _ _ _ _ _ (T17.setTop (mkF m 178 #[.val (.long x0), .second, .val (.int x1), .val (.int x2), .val (.int x3), .val (.int x4), .val (.ref b1), .val (.int (own_len x1)), .val (.int (own_fr x1 x2)), .val (.int (own_to x1 x2 x3)), .val (.int (own_i2c x4)), .val (.ref b8), .val (.ref b15), .val (.int (0 : Int32)), .unset] [(.int (own_fr x1 x2)), (.int (own_to x1 x2 x3))]))
  refine own_of (fun _ kk => XS.isub X17.here hx rfl (hb hby at_178) rfl kk) ?_
  show own_Fin _ _ _ _ _ _ _ (T17.setTop (mkF m 179 #[.val (.long x0), .second, .val (.int x1), .val (.int x2), .val (.int x3), .val (.int x4), .val (.ref b1), .val (.int (own_len x1)), .val (.int (own_fr x1 x2)), .val (.int (own_to x1 x2 x3)), .val (.int (own_i2c x4)), .val (.ref b8), .val (.ref b15), .val (.int (0 : Int32)), .unset] [(.int ((own_to x1 x2 x3) - (own_fr x1 x2)))]))
  refine own_of (fun _ kk => XS.istore X17.here hx rfl (hb hby at_179) rfl (l' := #[.val (.long x0), .second, .val (.int x1), .val (.int x2), .val (.int x3), .val (.int x4), .val (.ref b1), .val (.int (own_len x1)), .val (.int (own_fr x1 x2)), .val (.int (own_to x1 x2 x3)), .val (.int (own_i2c x4)), .val (.ref b8), .val (.ref b15), .val (.int (0 : Int32)), .val (.int ((own_to x1 x2 x3) - (own_fr x1 x2)))]) rfl kk) ?_
  show own_Fin _ _ _ _ _ _ _ (T17.setTop (mkF m 181 #[.val (.long x0), .second, .val (.int x1), .val (.int x2), .val (.int x3), .val (.int x4), .val (.ref b1), .val (.int (own_len x1)), .val (.int (own_fr x1 x2)), .val (.int (own_to x1 x2 x3)), .val (.int (own_i2c x4)), .val (.ref b8), .val (.ref b15), .val (.int (0 : Int32)), .val (.int ((own_to x1 x2 x3) - (own_fr x1 x2)))] []))
  refine own_of (fun _ kk => XS.iload X17.here hx rfl (hb hby at_181) rfl kk) ?_
  show own_Fin _ _ _ _ _ _ _ (T17.setTop (mkF m 183 #[.val (.long x0), .second, .val (.int x1), .val (.int x2), .val (.int x3), .val (.int x4), .val (.ref b1), .val (.int (own_len x1)), .val (.int (own_fr x1 x2)), .val (.int (own_to x1 x2 x3)), .val (.int (own_i2c x4)), .val (.ref b8), .val (.ref b15), .val (.int (0 : Int32)), .val (.int ((own_to x1 x2 x3) - (own_fr x1 x2)))] [(.int (0 : Int32))]))
  refine own_of (fun _ kk => XS.ifNo X17.here hx rfl (hb hby at_183) rfl ((if0 _ _).trans (teq (by decide : ((0 : Int32) = (0 : Int32)))).2) kk) ?_
  show own_Fin _ _ _ _ _ _ _ (T17.setTop (mkF m 186 #[.val (.long x0), .second, .val (.int x1), .val (.int x2), .val (.int x3), .val (.int x4), .val (.ref b1), .val (.int (own_len x1)), .val (.int (own_fr x1 x2)), .val (.int (own_to x1 x2 x3)), .val (.int (own_i2c x4)), .val (.ref b8), .val (.ref b15), .val (.int (0 : Int32)), .val (.int ((own_to x1 x2 x3) - (own_fr x1 x2)))] []))
  refine own_of (fun _ kk => XS.aload X17.here hx rfl (hb hby at_186) rfl rfl kk) ?_
  show own_Fin _ _ _ _ _ _ _ (T17.setTop (mkF m 188 #[.val (.long x0), .second, .val (.int x1), .val (.int x2), .val (.int x3), .val (.int x4), .val (.ref b1), .val (.int (own_len x1)), .val (.int (own_fr x1 x2)), .val (.int (own_to x1 x2 x3)), .val (.int (own_i2c x4)), .val (.ref b8), .val (.ref b15), .val (.int (0 : Int32)), .val (.int ((own_to x1 x2 x3) - (own_fr x1 x2)))] [(.ref b8)]))
  refine own_of (fun _ kk => XS.iconst X17.here hx rfl (hb hby at_188) kk) ?_
  show own_Fin _ _ _ _ _ _ _ (T17.setTop (mkF m 189 #[.val (.long x0), .second, .val (.int x1), .val (.int x2), .val (.int x3), .val (.int x4), .val (.ref b1), .val (.int (own_len x1)), .val (.int (own_fr x1 x2)), .val (.int (own_to x1 x2 x3)), .val (.int (own_i2c x4)), .val (.ref b8), .val (.ref b15), .val (.int (0 : Int32)), .val (.int ((own_to x1 x2 x3) - (own_fr x1 x2)))] [(.int (0 : Int32)), (.ref b8)]))
  refine own_caload X17 hx hZ e17 C17 (i := 0) (by decide) (by decide) (v := (.int (own_c (own_fb x0) (fun _ => own_i2c (own_i2c x4)) (own_F x1 x2) (own_N x1 x2 x3) 0))) rfl (hb hby at_189) ?_
  show own_Fin _ _ _ _ _ _ _ (T17.setTop (mkF m 190 #[.val (.long x0), .second, .val (.int x1), .val (.int x2), .val (.int x3), .val (.int x4), .val (.ref b1), .val (.int (own_len x1)), .val (.int (own_fr x1 x2)), .val (.int (own_to x1 x2 x3)), .val (.int (own_i2c x4)), .val (.ref b8), .val (.ref b15), .val (.int (0 : Int32)), .val (.int ((own_to x1 x2 x3) - (own_fr x1 x2)))] [(.int (own_c (own_fb x0) (fun _ => own_i2c (own_i2c x4)) (own_F x1 x2) (own_N x1 x2 x3) 0))]))
  refine own_of (fun _ kk => XS.aload X17.here hx rfl (hb hby at_190) rfl rfl kk) ?_
  show own_Fin _ _ _ _ _ _ _ (T17.setTop (mkF m 192 #[.val (.long x0), .second, .val (.int x1), .val (.int x2), .val (.int x3), .val (.int x4), .val (.ref b1), .val (.int (own_len x1)), .val (.int (own_fr x1 x2)), .val (.int (own_to x1 x2 x3)), .val (.int (own_i2c x4)), .val (.ref b8), .val (.ref b15), .val (.int (0 : Int32)), .val (.int ((own_to x1 x2 x3) - (own_fr x1 x2)))] [(.ref b1), (.int (own_c (own_fb x0) (fun _ => own_i2c (own_i2c x4)) (own_F x1 x2) (own_N x1 x2 x3) 0))]))
  refine own_of (fun _ kk => XS.iload X17.here hx rfl (hb hby at_192) rfl kk) ?_
  show own_Fin _ _ _ _ _ _ _ (T17.setTop (mkF m 194 #[.val (.long x0), .second, .val (.int x1), .val (.int x2), .val (.int x3), .val (.int x4), .val (.ref b1), .val (.int (own_len x1)), .val (.int (own_fr x1 x2)), .val (.int (own_to x1 x2 x3)), .val (.int (own_i2c x4)), .val (.ref b8), .val (.ref b15), .val (.int (0 : Int32)), .val (.int ((own_to x1 x2 x3) - (own_fr x1 x2)))] [(.int (own_fr x1 x2)), (.ref b1), (.int (own_c (own_fb x0) (fun _ => own_i2c (own_i2c x4)) (own_F x1 x2) (own_N x1 x2 x3) 0))]))
  refine own_of (fun _ kk => XS.iload X17.here hx rfl (hb hby at_194) rfl kk) ?_
  show own_Fin _ _ _ _ _ _ _ (T17.setTop (mkF m 196 #[.val (.long x0), .second, .val (.int x1), .val (.int x2), .val (.int x3), .val (.int x4), .val (.ref b1), .val (.int (own_len x1)), .val (.int (own_fr x1 x2)), .val (.int (own_to x1 x2 x3)), .val (.int (own_i2c x4)), .val (.ref b8), .val (.ref b15), .val (.int (0 : Int32)), .val (.int ((own_to x1 x2 x3) - (own_fr x1 x2)))] [(.int ((own_to x1 x2 x3) - (own_fr x1 x2))), (.int (own_fr x1 x2)), (.ref b1), (.int (own_c (own_fb x0) (fun _ => own_i2c (own_i2c x4)) (own_F x1 x2) (own_N x1 x2 x3) 0))]))
  refine own_of (fun _ kk => XS.iconst X17.here hx rfl (hb hby at_196) kk) ?_
  show own_Fin _ _ _ _ _ _ _ (T17.setTop (mkF m 197 #[.val (.long x0), .second, .val (.int x1), .val (.int x2), .val (.int x3), .val (.int x4), .val (.ref b1), .val (.int (own_len x1)), .val (.int (own_fr x1 x2)), .val (.int (own_to x1 x2 x3)), .val (.int (own_i2c x4)), .val (.ref b8), .val (.ref b15), .val (.int (0 : Int32)), .val (.int ((own_to x1 x2 x3) - (own_fr x1 x2)))] [(.int (0 : Int32)), (.int ((own_to x1 x2 x3) - (own_fr x1 x2))), (.int (own_fr x1 x2)), (.ref b1), (.int (own_c (own_fb x0) (fun _ => own_i2c (own_i2c x4)) (own_F x1 x2) (own_N x1 x2 x3) 0))]))
  refine own_of (fun _ kk => XS.iload X17.here hx rfl (hb hby at_197) rfl kk) ?_
  show own_Fin _ _ _ _ _ _ _ (T17.setTop (mkF m 199 #[.val (.long x0), .second, .val (.int x1), .val (.int x2), .val (.int x3), .val (.int x4), .val (.ref b1), .val (.int (own_len x1)), .val (.int (own_fr x1 x2)), .val (.int (own_to x1 x2 x3)), .val (.int (own_i2c x4)), .val (.ref b8), .val (.ref b15), .val (.int (0 : Int32)), .val (.int ((own_to x1 x2 x3) - (own_fr x1 x2)))] [(.int (own_i2c x4)), (.int (0 : Int32)), (.int ((own_to x1 x2 x3) - (own_fr x1 x2))), (.int (own_fr x1 x2)), (.ref b1), (.int (own_c (own_fb x0) (fun _ => own_i2c (own_i2c x4)) (own_F x1 x2) (own_N x1 x2 x3) 0))]))
  refine own_callS X17 hx hZ hown (hw _ (List.mem_of_getElem? (i := 34) rfl)) (hw _ (List.mem_of_getElem? (i := 35) rfl)) (hw _ (List.mem_of_getElem? (i := 36) rfl)) (hw _ (List.mem_of_getElem? (i := 37) rfl)) (by decide) e17 (argsL := [(.ref b1), (.int (own_fr x1 x2)), (.int ((own_to x1 x2 x3) - (own_fr x1 x2))), (.int (0 : Int32)), (.int (own_i2c x4))]) (met7 l Z a0 hw b1 (own_fr x1 x2) ((own_to x1 x2 x3) - (own_fr x1 x2)) (0 : Int32) (own_i2c x4) 6 (own_fb x0) (own_F x1 x2 + 0) (own_fb x0 (own_F x1 x2 + 0)) h17 n0 Z17 O17.2.2.2.1 (fun q => own_hb x1 x2 x3 _ 0 (by decide) q) rfl) (W := 1) (by decide) (by decide) (by decide) (by decide) (by rw [hml]; rfl) pd_6 rfl (rest := [(.int (own_c (own_fb x0) (fun _ => own_i2c (own_i2c x4)) (own_F x1 x2) (own_N x1 x2 x3) 0))]) rfl (Nat.le_of_eq rfl) (hb hby at_199) ?_
  intro v18 T18 h18 L18 X18 e18 q18
  obtain ⟨rfl, qh18, rfl⟩ := q18
  rw [qh18] at e18
  have N18 := Fr.app N17 (Fr.nil n0)
  show own_Fin _ _ _ _ _ _ _ (T18.setTop (mkF m 202 #[.val (.long x0), .second, .val (.int x1), .val (.int x2), .val (.int x3), .val (.int x4), .val (.ref b1), .val (.int (own_len x1)), .val (.int (own_fr x1 x2)), .val (.int (own_to x1 x2 x3)), .val (.int (own_i2c x4)), .val (.ref b8), .val (.ref b15), .val (.int (0 : Int32)), .val (.int ((own_to x1 x2 x3) - (own_fr x1 x2)))] [(.int (own_e ((own_to x1 x2 x3) - (own_fr x1 x2)) (0 : Int32) (own_i2c x4) (own_fb x0 (own_F x1 x2 + 0)))), (.int (own_c (own_fb x0) (fun _ => own_i2c (own_i2c x4)) (own_F x1 x2) (own_N x1 x2 x3) 0))]))
  refine own_of (fun _ kk => XS.icmpNo X18.here hx rfl (hb hby at_202) rfl (teq (own_eq x0 x1 x2 x3 x4 (0 : Int32) 0 (by decide))).2 kk) ?_
  show own_Fin _ _ _ _ _ _ _ (T18.setTop (mkF m 205 #[.val (.long x0), .second, .val (.int x1), .val (.int x2), .val (.int x3), .val (.int x4), .val (.ref b1), .val (.int (own_len x1)), .val (.int (own_fr x1 x2)), .val (.int (own_to x1 x2 x3)), .val (.int (own_i2c x4)), .val (.ref b8), .val (.ref b15), .val (.int (0 : Int32)), .val (.int ((own_to x1 x2 x3) - (own_fr x1 x2)))] []))
  refine own_of (fun _ kk => XS.aload X18.here hx rfl (hb hby at_205) rfl rfl kk) ?_
  show own_Fin _ _ _ _ _ _ _ (T18.setTop (mkF m 207 #[.val (.long x0), .second, .val (.int x1), .val (.int x2), .val (.int x3), .val (.int x4), .val (.ref b1), .val (.int (own_len x1)), .val (.int (own_fr x1 x2)), .val (.int (own_to x1 x2 x3)), .val (.int (own_i2c x4)), .val (.ref b8), .val (.ref b15), .val (.int (0 : Int32)), .val (.int ((own_to x1 x2 x3) - (own_fr x1 x2)))] [(.ref b8)]))
  refine own_of (fun _ kk => XS.iconst X18.here hx rfl (hb hby at_207) kk) ?_
  show own_Fin _ _ _ _ _ _ _ (T18.setTop (mkF m 208 #[.val (.long x0), .second, .val (.int x1), .val (.int x2), .val (.int x3), .val (.int x4), .val (.ref b1), .val (.int (own_len x1)), .val (.int (own_fr x1 x2)), .val (.int (own_to x1 x2 x3)), .val (.int (own_i2c x4)), .val (.ref b8), .val (.ref b15), .val (.int (0 : Int32)), .val (.int ((own_to x1 x2 x3) - (own_fr x1 x2)))] [(.int (1 : Int32)), (.ref b8)]))
  refine own_caload X18 hx hZ e18 C17 (i := 1) (by decide) (by decide) (v := (.int (own_c (own_fb x0) (fun _ => own_i2c (own_i2c x4)) (own_F x1 x2) (own_N x1 x2 x3) 1))) rfl (hb hby at_208) ?_
  show own_Fin _ _ _ _ _ _ _ (T18.setTop (mkF m 209 #[.val (.long x0), .second, .val (.int x1), .val (.int x2), .val (.int x3), .val (.int x4), .val (.ref b1), .val (.int (own_len x1)), .val (.int (own_fr x1 x2)), .val (.int (own_to x1 x2 x3)), .val (.int (own_i2c x4)), .val (.ref b8), .val (.ref b15), .val (.int (0 : Int32)), .val (.int ((own_to x1 x2 x3) - (own_fr x1 x2)))] [(.int (own_c (own_fb x0) (fun _ => own_i2c (own_i2c x4)) (own_F x1 x2) (own_N x1 x2 x3) 1))]))
  refine own_of (fun _ kk => XS.aload X18.here hx rfl (hb hby at_209) rfl rfl kk) ?_
  show own_Fin _ _ _ _ _ _ _ (T18.setTop (mkF m 211 #[.val (.long x0), .second, .val (.int x1), .val (.int x2), .val (.int x3), .val (.int x4), .val (.ref b1), .val (.int (own_len x1)), .val (.int (own_fr x1 x2)), .val (.int (own_to x1 x2 x3)), .val (.int (own_i2c x4)), .val (.ref b8), .val (.ref b15), .val (.int (0 : Int32)), .val (.int ((own_to x1 x2 x3) - (own_fr x1 x2)))] [(.ref b1), (.int (own_c (own_fb x0) (fun _ => own_i2c (own_i2c x4)) (own_F x1 x2) (own_N x1 x2 x3) 1))]))
  refine own_of (fun _ kk => XS.iload X18.here hx rfl (hb hby at_211) rfl kk) ?_
  show own_Fin _ _ _ _ _ _ _ (T18.setTop (mkF m 213 #[.val (.long x0), .second, .val (.int x1), .val (.int x2), .val (.int x3), .val (.int x4), .val (.ref b1), .val (.int (own_len x1)), .val (.int (own_fr x1 x2)), .val (.int (own_to x1 x2 x3)), .val (.int (own_i2c x4)), .val (.ref b8), .val (.ref b15), .val (.int (0 : Int32)), .val (.int ((own_to x1 x2 x3) - (own_fr x1 x2)))] [(.int (own_fr x1 x2)), (.ref b1), (.int (own_c (own_fb x0) (fun _ => own_i2c (own_i2c x4)) (own_F x1 x2) (own_N x1 x2 x3) 1))]))
  refine own_of (fun _ kk => XS.iload X18.here hx rfl (hb hby at_213) rfl kk) ?_
  show own_Fin _ _ _ _ _ _ _ (T18.setTop (mkF m 215 #[.val (.long x0), .second, .val (.int x1), .val (.int x2), .val (.int x3), .val (.int x4), .val (.ref b1), .val (.int (own_len x1)), .val (.int (own_fr x1 x2)), .val (.int (own_to x1 x2 x3)), .val (.int (own_i2c x4)), .val (.ref b8), .val (.ref b15), .val (.int (0 : Int32)), .val (.int ((own_to x1 x2 x3) - (own_fr x1 x2)))] [(.int ((own_to x1 x2 x3) - (own_fr x1 x2))), (.int (own_fr x1 x2)), (.ref b1), (.int (own_c (own_fb x0) (fun _ => own_i2c (own_i2c x4)) (own_F x1 x2) (own_N x1 x2 x3) 1))]))
  refine own_of (fun _ kk => XS.iconst X18.here hx rfl (hb hby at_215) kk) ?_
  show own_Fin _ _ _ _ _ _ _ (T18.setTop (mkF m 216 #[.val (.long x0), .second, .val (.int x1), .val (.int x2), .val (.int x3), .val (.int x4), .val (.ref b1), .val (.int (own_len x1)), .val (.int (own_fr x1 x2)), .val (.int (own_to x1 x2 x3)), .val (.int (own_i2c x4)), .val (.ref b8), .val (.ref b15), .val (.int (0 : Int32)), .val (.int ((own_to x1 x2 x3) - (own_fr x1 x2)))] [(.int (1 : Int32)), (.int ((own_to x1 x2 x3) - (own_fr x1 x2))), (.int (own_fr x1 x2)), (.ref b1), (.int (own_c (own_fb x0) (fun _ => own_i2c (own_i2c x4)) (own_F x1 x2) (own_N x1 x2 x3) 1))]))
  refine own_of (fun _ kk => XS.iload X18.here hx rfl (hb hby at_216) rfl kk) ?_
  show own_Fin _ _ _ _ _ _ _ (T18.setTop (mkF m 218 #[.val (.long x0), .second, .val (.int x1), .val (.int x2), .val (.int x3), .val (.int x4), .val (.ref b1), .val (.int (own_len x1)), .val (.int (own_fr x1 x2)), .val (.int (own_to x1 x2 x3)), .val (.int (own_i2c x4)), .val (.ref b8), .val (.ref b15), .val (.int (0 : Int32)), .val (.int ((own_to x1 x2 x3) - (own_fr x1 x2)))] [(.int (own_i2c x4)), (.int (1 : Int32)), (.int ((own_to x1 x2 x3) - (own_fr x1 x2))), (.int (own_fr x1 x2)), (.ref b1), (.int (own_c (own_fb x0) (fun _ => own_i2c (own_i2c x4)) (own_F x1 x2) (own_N x1 x2 x3) 1))]))
  refine own_callS X18 hx hZ hown (hw _ (List.mem_of_getElem? (i := 34) rfl)) (hw _ (List.mem_of_getElem? (i := 35) rfl)) (hw _ (List.mem_of_getElem? (i := 36) rfl)) (hw _ (List.mem_of_getElem? (i := 37) rfl)) (by decide) e18 (argsL := [(.ref b1), (.int (own_fr x1 x2)), (.int ((own_to x1 x2 x3) - (own_fr x1 x2))), (.int (1 : Int32)), (.int (own_i2c x4))]) (met7 l Z a0 hw b1 (own_fr x1 x2) ((own_to x1 x2 x3) - (own_fr x1 x2)) (1 : Int32) (own_i2c x4) 6 (own_fb x0) (own_F x1 x2 + 1) (own_fb x0 (own_F x1 x2 + 1)) h17 n0 Z17 O17.2.2.2.1 (fun q => own_hb x1 x2 x3 _ 1 (by decide) q) rfl) (W := 1) (by decide) (by decide) (by decide) (by decide) (by rw [hml]; rfl) pd_6 rfl (rest := [(.int (own_c (own_fb x0) (fun _ => own_i2c (own_i2c x4)) (own_F x1 x2) (own_N x1 x2 x3) 1))]) rfl (Nat.le_of_eq rfl) (hb hby at_218) ?_
  intro v19 T19 h19 L19 X19 e19 q19
  obtain ⟨rfl, qh19, rfl⟩ := q19
  rw [qh19] at e19
  have N19 := Fr.app N18 (Fr.nil n0)
  show own_Fin _ _ _ _ _ _ _ (T19.setTop (mkF m 221 #[.val (.long x0), .second, .val (.int x1), .val (.int x2), .val (.int x3), .val (.int x4), .val (.ref b1), .val (.int (own_len x1)), .val (.int (own_fr x1 x2)), .val (.int (own_to x1 x2 x3)), .val (.int (own_i2c x4)), .val (.ref b8), .val (.ref b15), .val (.int (0 : Int32)), .val (.int ((own_to x1 x2 x3) - (own_fr x1 x2)))] [(.int (own_e ((own_to x1 x2 x3) - (own_fr x1 x2)) (1 : Int32) (own_i2c x4) (own_fb x0 (own_F x1 x2 + 1)))), (.int (own_c (own_fb x0) (fun _ => own_i2c (own_i2c x4)) (own_F x1 x2) (own_N x1 x2 x3) 1))]))
  refine own_of (fun _ kk => XS.icmpNo X19.here hx rfl (hb hby at_221) rfl (teq (own_eq x0 x1 x2 x3 x4 (1 : Int32) 1 (by decide))).2 kk) ?_
  show own_Fin _ _ _ _ _ _ _ (T19.setTop (mkF m 224 #[.val (.long x0), .second, .val (.int x1), .val (.int x2), .val (.int x3), .val (.int x4), .val (.ref b1), .val (.int (own_len x1)), .val (.int (own_fr x1 x2)), .val (.int (own_to x1 x2 x3)), .val (.int (own_i2c x4)), .val (.ref b8), .val (.ref b15), .val (.int (0 : Int32)), .val (.int ((own_to x1 x2 x3) - (own_fr x1 x2)))] []))
  refine own_of (fun _ kk => XS.aload X19.here hx rfl (hb hby at_224) rfl rfl kk) ?_
  show own_Fin _ _ _ _ _ _ _ (T19.setTop (mkF m 226 #[.val (.long x0), .second, .val (.int x1), .val (.int x2), .val (.int x3), .val (.int x4), .val (.ref b1), .val (.int (own_len x1)), .val (.int (own_fr x1 x2)), .val (.int (own_to x1 x2 x3)), .val (.int (own_i2c x4)), .val (.ref b8), .val (.ref b15), .val (.int (0 : Int32)), .val (.int ((own_to x1 x2 x3) - (own_fr x1 x2)))] [(.ref b8)]))
  refine own_of (fun _ kk => XS.iconst X19.here hx rfl (hb hby at_226) kk) ?_
  show own_Fin _ _ _ _ _ _ _ (T19.setTop (mkF m 227 #[.val (.long x0), .second, .val (.int x1), .val (.int x2), .val (.int x3), .val (.int x4), .val (.ref b1), .val (.int (own_len x1)), .val (.int (own_fr x1 x2)), .val (.int (own_to x1 x2 x3)), .val (.int (own_i2c x4)), .val (.ref b8), .val (.ref b15), .val (.int (0 : Int32)), .val (.int ((own_to x1 x2 x3) - (own_fr x1 x2)))] [(.int (2 : Int32)), (.ref b8)]))
  refine own_caload X19 hx hZ e19 C17 (i := 2) (by decide) (by decide) (v := (.int (own_c (own_fb x0) (fun _ => own_i2c (own_i2c x4)) (own_F x1 x2) (own_N x1 x2 x3) 2))) rfl (hb hby at_227) ?_
  show own_Fin _ _ _ _ _ _ _ (T19.setTop (mkF m 228 #[.val (.long x0), .second, .val (.int x1), .val (.int x2), .val (.int x3), .val (.int x4), .val (.ref b1), .val (.int (own_len x1)), .val (.int (own_fr x1 x2)), .val (.int (own_to x1 x2 x3)), .val (.int (own_i2c x4)), .val (.ref b8), .val (.ref b15), .val (.int (0 : Int32)), .val (.int ((own_to x1 x2 x3) - (own_fr x1 x2)))] [(.int (own_c (own_fb x0) (fun _ => own_i2c (own_i2c x4)) (own_F x1 x2) (own_N x1 x2 x3) 2))]))
  refine own_of (fun _ kk => XS.aload X19.here hx rfl (hb hby at_228) rfl rfl kk) ?_
  show own_Fin _ _ _ _ _ _ _ (T19.setTop (mkF m 230 #[.val (.long x0), .second, .val (.int x1), .val (.int x2), .val (.int x3), .val (.int x4), .val (.ref b1), .val (.int (own_len x1)), .val (.int (own_fr x1 x2)), .val (.int (own_to x1 x2 x3)), .val (.int (own_i2c x4)), .val (.ref b8), .val (.ref b15), .val (.int (0 : Int32)), .val (.int ((own_to x1 x2 x3) - (own_fr x1 x2)))] [(.ref b1), (.int (own_c (own_fb x0) (fun _ => own_i2c (own_i2c x4)) (own_F x1 x2) (own_N x1 x2 x3) 2))]))
  refine own_of (fun _ kk => XS.iload X19.here hx rfl (hb hby at_230) rfl kk) ?_
  show own_Fin _ _ _ _ _ _ _ (T19.setTop (mkF m 232 #[.val (.long x0), .second, .val (.int x1), .val (.int x2), .val (.int x3), .val (.int x4), .val (.ref b1), .val (.int (own_len x1)), .val (.int (own_fr x1 x2)), .val (.int (own_to x1 x2 x3)), .val (.int (own_i2c x4)), .val (.ref b8), .val (.ref b15), .val (.int (0 : Int32)), .val (.int ((own_to x1 x2 x3) - (own_fr x1 x2)))] [(.int (own_fr x1 x2)), (.ref b1), (.int (own_c (own_fb x0) (fun _ => own_i2c (own_i2c x4)) (own_F x1 x2) (own_N x1 x2 x3) 2))]))
  refine own_of (fun _ kk => XS.iload X19.here hx rfl (hb hby at_232) rfl kk) ?_
  show own_Fin _ _ _ _ _ _ _ (T19.setTop (mkF m 234 #[.val (.long x0), .second, .val (.int x1), .val (.int x2), .val (.int x3), .val (.int x4), .val (.ref b1), .val (.int (own_len x1)), .val (.int (own_fr x1 x2)), .val (.int (own_to x1 x2 x3)), .val (.int (own_i2c x4)), .val (.ref b8), .val (.ref b15), .val (.int (0 : Int32)), .val (.int ((own_to x1 x2 x3) - (own_fr x1 x2)))] [(.int ((own_to x1 x2 x3) - (own_fr x1 x2))), (.int (own_fr x1 x2)), (.ref b1), (.int (own_c (own_fb x0) (fun _ => own_i2c (own_i2c x4)) (own_F x1 x2) (own_N x1 x2 x3) 2))]))
  refine own_of (fun _ kk => XS.iconst X19.here hx rfl (hb hby at_234) kk) ?_
  show own_Fin _ _ _ _ _ _ _ (T19.setTop (mkF m 235 #[.val (.long x0), .second, .val (.int x1), .val (.int x2), .val (.int x3), .val (.int x4), .val (.ref b1), .val (.int (own_len x1)), .val (.int (own_fr x1 x2)), .val (.int (own_to x1 x2 x3)), .val (.int (own_i2c x4)), .val (.ref b8), .val (.ref b15), .val (.int (0 : Int32)), .val (.int ((own_to x1 x2 x3) - (own_fr x1 x2)))] [(.int (2 : Int32)), (.int ((own_to x1 x2 x3) - (own_fr x1 x2))), (.int (own_fr x1 x2)), (.ref b1), (.int (own_c (own_fb x0) (fun _ => own_i2c (own_i2c x4)) (own_F x1 x2) (own_N x1 x2 x3) 2))]))
  refine own_of (fun _ kk => XS.iload X19.here hx rfl (hb hby at_235) rfl kk) ?_
  show own_Fin _ _ _ _ _ _ _ (T19.setTop (mkF m 237 #[.val (.long x0), .second, .val (.int x1), .val (.int x2), .val (.int x3), .val (.int x4), .val (.ref b1), .val (.int (own_len x1)), .val (.int (own_fr x1 x2)), .val (.int (own_to x1 x2 x3)), .val (.int (own_i2c x4)), .val (.ref b8), .val (.ref b15), .val (.int (0 : Int32)), .val (.int ((own_to x1 x2 x3) - (own_fr x1 x2)))] [(.int (own_i2c x4)), (.int (2 : Int32)), (.int ((own_to x1 x2 x3) - (own_fr x1 x2))), (.int (own_fr x1 x2)), (.ref b1), (.int (own_c (own_fb x0) (fun _ => own_i2c (own_i2c x4)) (own_F x1 x2) (own_N x1 x2 x3) 2))]))
  refine own_callS X19 hx hZ hown (hw _ (List.mem_of_getElem? (i := 34) rfl)) (hw _ (List.mem_of_getElem? (i := 35) rfl)) (hw _ (List.mem_of_getElem? (i := 36) rfl)) (hw _ (List.mem_of_getElem? (i := 37) rfl)) (by decide) e19 (argsL := [(.ref b1), (.int (own_fr x1 x2)), (.int ((own_to x1 x2 x3) - (own_fr x1 x2))), (.int (2 : Int32)), (.int (own_i2c x4))]) (met7 l Z a0 hw b1 (own_fr x1 x2) ((own_to x1 x2 x3) - (own_fr x1 x2)) (2 : Int32) (own_i2c x4) 6 (own_fb x0) (own_F x1 x2 + 2) (own_fb x0 (own_F x1 x2 + 2)) h17 n0 Z17 O17.2.2.2.1 (fun q => own_hb x1 x2 x3 _ 2 (by decide) q) rfl) (W := 1) (by decide) (by decide) (by decide) (by decide) (by rw [hml]; rfl) pd_6 rfl (rest := [(.int (own_c (own_fb x0) (fun _ => own_i2c (own_i2c x4)) (own_F x1 x2) (own_N x1 x2 x3) 2))]) rfl (Nat.le_of_eq rfl) (hb hby at_237) ?_
  intro v20 T20 h20 L20 X20 e20 q20
  obtain ⟨rfl, qh20, rfl⟩ := q20
  rw [qh20] at e20
  have N20 := Fr.app N19 (Fr.nil n0)
  show own_Fin _ _ _ _ _ _ _ (T20.setTop (mkF m 240 #[.val (.long x0), .second, .val (.int x1), .val (.int x2), .val (.int x3), .val (.int x4), .val (.ref b1), .val (.int (own_len x1)), .val (.int (own_fr x1 x2)), .val (.int (own_to x1 x2 x3)), .val (.int (own_i2c x4)), .val (.ref b8), .val (.ref b15), .val (.int (0 : Int32)), .val (.int ((own_to x1 x2 x3) - (own_fr x1 x2)))] [(.int (own_e ((own_to x1 x2 x3) - (own_fr x1 x2)) (2 : Int32) (own_i2c x4) (own_fb x0 (own_F x1 x2 + 2)))), (.int (own_c (own_fb x0) (fun _ => own_i2c (own_i2c x4)) (own_F x1 x2) (own_N x1 x2 x3) 2))]))
  refine own_of (fun _ kk => XS.icmpNo X20.here hx rfl (hb hby at_240) rfl (teq (own_eq x0 x1 x2 x3 x4 (2 : Int32) 2 (by decide))).2 kk) ?_
  show own_Fin _ _ _ _ _ _ _ (T20.setTop (mkF m 243 #[.val (.long x0), .second, .val (.int x1), .val (.int x2), .val (.int x3), .val (.int x4), .val (.ref b1), .val (.int (own_len x1)), .val (.int (own_fr x1 x2)), .val (.int (own_to x1 x2 x3)), .val (.int (own_i2c x4)), .val (.ref b8), .val (.ref b15), .val (.int (0 : Int32)), .val (.int ((own_to x1 x2 x3) - (own_fr x1 x2)))] []))
  refine own_of (fun _ kk => XS.aload X20.here hx rfl (hb hby at_243) rfl rfl kk) ?_
  show own_Fin _ _ _ _ _ _ _ (T20.setTop (mkF m 245 #[.val (.long x0), .second, .val (.int x1), .val (.int x2), .val (.int x3), .val (.int x4), .val (.ref b1), .val (.int (own_len x1)), .val (.int (own_fr x1 x2)), .val (.int (own_to x1 x2 x3)), .val (.int (own_i2c x4)), .val (.ref b8), .val (.ref b15), .val (.int (0 : Int32)), .val (.int ((own_to x1 x2 x3) - (own_fr x1 x2)))] [(.ref b8)]))
  refine own_of (fun _ kk => XS.iconst X20.here hx rfl (hb hby at_245) kk) ?_
  show own_Fin _ _ _ _ _ _ _ (T20.setTop (mkF m 246 #[.val (.long x0), .second, .val (.int x1), .val (.int x2), .val (.int x3), .val (.int x4), .val (.ref b1), .val (.int (own_len x1)), .val (.int (own_fr x1 x2)), .val (.int (own_to x1 x2 x3)), .val (.int (own_i2c x4)), .val (.ref b8), .val (.ref b15), .val (.int (0 : Int32)), .val (.int ((own_to x1 x2 x3) - (own_fr x1 x2)))] [(.int (3 : Int32)), (.ref b8)]))
  refine own_caload X20 hx hZ e20 C17 (i := 3) (by decide) (by decide) (v := (.int (own_c (own_fb x0) (fun _ => own_i2c (own_i2c x4)) (own_F x1 x2) (own_N x1 x2 x3) 3))) rfl (hb hby at_246) ?_
  show own_Fin _ _ _ _ _ _ _ (T20.setTop (mkF m 247 #[.val (.long x0), .second, .val (.int x1), .val (.int x2), .val (.int x3), .val (.int x4), .val (.ref b1), .val (.int (own_len x1)), .val (.int (own_fr x1 x2)), .val (.int (own_to x1 x2 x3)), .val (.int (own_i2c x4)), .val (.ref b8), .val (.ref b15), .val (.int (0 : Int32)), .val (.int ((own_to x1 x2 x3) - (own_fr x1 x2)))] [(.int (own_c (own_fb x0) (fun _ => own_i2c (own_i2c x4)) (own_F x1 x2) (own_N x1 x2 x3) 3))]))
  refine own_of (fun _ kk => XS.aload X20.here hx rfl (hb hby at_247) rfl rfl kk) ?_
  show own_Fin _ _ _ _ _ _ _ (T20.setTop (mkF m 249 #[.val (.long x0), .second, .val (.int x1), .val (.int x2), .val (.int x3), .val (.int x4), .val (.ref b1), .val (.int (own_len x1)), .val (.int (own_fr x1 x2)), .val (.int (own_to x1 x2 x3)), .val (.int (own_i2c x4)), .val (.ref b8), .val (.ref b15), .val (.int (0 : Int32)), .val (.int ((own_to x1 x2 x3) - (own_fr x1 x2)))] [(.ref b1), (.int (own_c (own_fb x0) (fun _ => own_i2c (own_i2c x4)) (own_F x1 x2) (own_N x1 x2 x3) 3))]))
  refine own_of (fun _ kk => XS.iload X20.here hx rfl (hb hby at_249) rfl kk) ?_
  show own_Fin _ _ _ _ _ _ _ (T20.setTop (mkF m 251 #[.val (.long x0), .second, .val (.int x1), .val (.int x2), .val (.int x3), .val (.int x4), .val (.ref b1), .val (.int (own_len x1)), .val (.int (own_fr x1 x2)), .val (.int (own_to x1 x2 x3)), .val (.int (own_i2c x4)), .val (.ref b8), .val (.ref b15), .val (.int (0 : Int32)), .val (.int ((own_to x1 x2 x3) - (own_fr x1 x2)))] [(.int (own_fr x1 x2)), (.ref b1), (.int (own_c (own_fb x0) (fun _ => own_i2c (own_i2c x4)) (own_F x1 x2) (own_N x1 x2 x3) 3))]))
  refine own_of (fun _ kk => XS.iload X20.here hx rfl (hb hby at_251) rfl kk) ?_
  show own_Fin _ _ _ _ _ _ _ (T20.setTop (mkF m 253 #[.val (.long x0), .second, .val (.int x1), .val (.int x2), .val (.int x3), .val (.int x4), .val (.ref b1), .val (.int (own_len x1)), .val (.int (own_fr x1 x2)), .val (.int (own_to x1 x2 x3)), .val (.int (own_i2c x4)), .val (.ref b8), .val (.ref b15), .val (.int (0 : Int32)), .val (.int ((own_to x1 x2 x3) - (own_fr x1 x2)))] [(.int ((own_to x1 x2 x3) - (own_fr x1 x2))), (.int (own_fr x1 x2)), (.ref b1), (.int (own_c (own_fb x0) (fun _ => own_i2c (own_i2c x4)) (own_F x1 x2) (own_N x1 x2 x3) 3))]))
  refine own_of (fun _ kk => XS.iconst X20.here hx rfl (hb hby at_253) kk) ?_
  show own_Fin _ _ _ _ _ _ _ (T20.setTop (mkF m 254 #[.val (.long x0), .second, .val (.int x1), .val (.int x2), .val (.int x3), .val (.int x4), .val (.ref b1), .val (.int (own_len x1)), .val (.int (own_fr x1 x2)), .val (.int (own_to x1 x2 x3)), .val (.int (own_i2c x4)), .val (.ref b8), .val (.ref b15), .val (.int (0 : Int32)), .val (.int ((own_to x1 x2 x3) - (own_fr x1 x2)))] [(.int (3 : Int32)), (.int ((own_to x1 x2 x3) - (own_fr x1 x2))), (.int (own_fr x1 x2)), (.ref b1), (.int (own_c (own_fb x0) (fun _ => own_i2c (own_i2c x4)) (own_F x1 x2) (own_N x1 x2 x3) 3))]))
  refine own_of (fun _ kk => XS.iload X20.here hx rfl (hb hby at_254) rfl kk) ?_
  show own_Fin _ _ _ _ _ _ _ (T20.setTop (mkF m 256 #[.val (.long x0), .second, .val (.int x1), .val (.int x2), .val (.int x3), .val (.int x4), .val (.ref b1), .val (.int (own_len x1)), .val (.int (own_fr x1 x2)), .val (.int (own_to x1 x2 x3)), .val (.int (own_i2c x4)), .val (.ref b8), .val (.ref b15), .val (.int (0 : Int32)), .val (.int ((own_to x1 x2 x3) - (own_fr x1 x2)))] [(.int (own_i2c x4)), (.int (3 : Int32)), (.int ((own_to x1 x2 x3) - (own_fr x1 x2))), (.int (own_fr x1 x2)), (.ref b1), (.int (own_c (own_fb x0) (fun _ => own_i2c (own_i2c x4)) (own_F x1 x2) (own_N x1 x2 x3) 3))]))
  refine own_callS X20 hx hZ hown (hw _ (List.mem_of_getElem? (i := 34) rfl)) (hw _ (List.mem_of_getElem? (i := 35) rfl)) (hw _ (List.mem_of_getElem? (i := 36) rfl)) (hw _ (List.mem_of_getElem? (i := 37) rfl)) (by decide) e20 (argsL := [(.ref b1), (.int (own_fr x1 x2)), (.int ((own_to x1 x2 x3) - (own_fr x1 x2))), (.int (3 : Int32)), (.int (own_i2c x4))]) (met7 l Z a0 hw b1 (own_fr x1 x2) ((own_to x1 x2 x3) - (own_fr x1 x2)) (3 : Int32) (own_i2c x4) 6 (own_fb x0) (own_F x1 x2 + 3) (own_fb x0 (own_F x1 x2 + 3)) h17 n0 Z17 O17.2.2.2.1 (fun q => own_hb x1 x2 x3 _ 3 (by decide) q) rfl) (W := 1) (by decide) (by decide) (by decide) (by decide) (by rw [hml]; rfl) pd_6 rfl (rest := [(.int (own_c (own_fb x0) (fun _ => own_i2c (own_i2c x4)) (own_F x1 x2) (own_N x1 x2 x3) 3))]) rfl (Nat.le_of_eq rfl) (hb hby at_256) ?_
  intro v21 T21 h21 L21 X21 e21 q21
  obtain ⟨rfl, qh21, rfl⟩ := q21
  rw [qh21] at e21
  have N21 := Fr.app N20 (Fr.nil n0)
  show own_Fin _ _ _ _ _ _ _ (T21.setTop (mkF m 259 #[.val (.long x0), .second, .val (.int x1), .val (.int x2), .val (.int x3), .val (.int x4), .val (.ref b1), .val (.int (own_len x1)), .val (.int (own_fr x1 x2)), .val (.int (own_to x1 x2 x3)), .val (.int (own_i2c x4)), .val (.ref b8), .val (.ref b15), .val (.int (0 : Int32)), .val (.int ((own_to x1 x2 x3) - (own_fr x1 x2)))] [(.int (own_e ((own_to x1 x2 x3) - (own_fr x1 x2)) (3 : Int32) (own_i2c x4) (own_fb x0 (own_F x1 x2 + 3)))), (.int (own_c (own_fb x0) (fun _ => own_i2c (own_i2c x4)) (own_F x1 x2) (own_N x1 x2 x3) 3))]))
  refine own_of (fun _ kk => XS.icmpNo X21.here hx rfl (hb hby at_259) rfl (teq (own_eq x0 x1 x2 x3 x4 (3 : Int32) 3 (by decide))).2 kk) ?_
  show own_Fin _ _ _ _ _ _ _ (T21.setTop (mkF m 262 #[.val (.long x0), .second, .val (.int x1), .val (.int x2), .val (.int x3), .val (.int x4), .val (.ref b1), .val (.int (own_len x1)), .val (.int (own_fr x1 x2)), .val (.int (own_to x1 x2 x3)), .val (.int (own_i2c x4)), .val (.ref b8), .val (.ref b15), .val (.int (0 : Int32)), .val (.int ((own_to x1 x2 x3) - (own_fr x1 x2)))] []))
  refine own_of (fun _ kk => XS.aload X21.here hx rfl (hb hby at_262) rfl rfl kk) ?_
  show own_Fin _ _ _ _ _ _ _ (T21.setTop (mkF m 264 #[.val (.long x0), .second, .val (.int x1), .val (.int x2), .val (.int x3), .val (.int x4), .val (.ref b1), .val (.int (own_len x1)), .val (.int (own_fr x1 x2)), .val (.int (own_to x1 x2 x3)), .val (.int (own_i2c x4)), .val (.ref b8), .val (.ref b15), .val (.int (0 : Int32)), .val (.int ((own_to x1 x2 x3) - (own_fr x1 x2)))] [(.ref b8)]))
  refine own_of (fun _ kk => XS.iconst X21.here hx rfl (hb hby at_264) kk) ?_
  show own_Fin _ _ _ _ _ _ _ (T21.setTop (mkF m 265 #[.val (.long x0), .second, .val (.int x1), .val (.int x2), .val (.int x3), .val (.int x4), .val (.ref b1), .val (.int (own_len x1)), .val (.int (own_fr x1 x2)), .val (.int (own_to x1 x2 x3)), .val (.int (own_i2c x4)), .val (.ref b8), .val (.ref b15), .val (.int (0 : Int32)), .val (.int ((own_to x1 x2 x3) - (own_fr x1 x2)))] [(.int (4 : Int32)), (.ref b8)]))
  refine own_caload X21 hx hZ e21 C17 (i := 4) (by decide) (by decide) (v := (.int (own_c (own_fb x0) (fun _ => own_i2c (own_i2c x4)) (own_F x1 x2) (own_N x1 x2 x3) 4))) rfl (hb hby at_265) ?_
  show own_Fin _ _ _ _ _ _ _ (T21.setTop (mkF m 266 #[.val (.long x0), .second, .val (.int x1), .val (.int x2), .val (.int x3), .val (.int x4), .val (.ref b1), .val (.int (own_len x1)), .val (.int (own_fr x1 x2)), .val (.int (own_to x1 x2 x3)), .val (.int (own_i2c x4)), .val (.ref b8), .val (.ref b15), .val (.int (0 : Int32)), .val (.int ((own_to x1 x2 x3) - (own_fr x1 x2)))] [(.int (own_c (own_fb x0) (fun _ => own_i2c (own_i2c x4)) (own_F x1 x2) (own_N x1 x2 x3) 4))]))
  refine own_of (fun _ kk => XS.aload X21.here hx rfl (hb hby at_266) rfl rfl kk) ?_
  show own_Fin _ _ _ _ _ _ _ (T21.setTop (mkF m 268 #[.val (.long x0), .second, .val (.int x1), .val (.int x2), .val (.int x3), .val (.int x4), .val (.ref b1), .val (.int (own_len x1)), .val (.int (own_fr x1 x2)), .val (.int (own_to x1 x2 x3)), .val (.int (own_i2c x4)), .val (.ref b8), .val (.ref b15), .val (.int (0 : Int32)), .val (.int ((own_to x1 x2 x3) - (own_fr x1 x2)))] [(.ref b1), (.int (own_c (own_fb x0) (fun _ => own_i2c (own_i2c x4)) (own_F x1 x2) (own_N x1 x2 x3) 4))]))
  refine own_of (fun _ kk => XS.iload X21.here hx rfl (hb hby at_268) rfl kk) ?_
  show own_Fin _ _ _ _ _ _ _ (T21.setTop (mkF m 270 #[.val (.long x0), .second, .val (.int x1), .val (.int x2), .val (.int x3), .val (.int x4), .val (.ref b1), .val (.int (own_len x1)), .val (.int (own_fr x1 x2)), .val (.int (own_to x1 x2 x3)), .val (.int (own_i2c x4)), .val (.ref b8), .val (.ref b15), .val (.int (0 : Int32)), .val (.int ((own_to x1 x2 x3) - (own_fr x1 x2)))] [(.int (own_fr x1 x2)), (.ref b1), (.int (own_c (own_fb x0) (fun _ => own_i2c (own_i2c x4)) (own_F x1 x2) (own_N x1 x2 x3) 4))]))
  refine own_of (fun _ kk => XS.iload X21.here hx rfl (hb hby at_270) rfl kk) ?_
  show own_Fin _ _ _ _ _ _ _ (T21.setTop (mkF m 272 #[.val (.long x0), .second, .val (.int x1), .val (.int x2), .val (.int x3), .val (.int x4), .val (.ref b1), .val (.int (own_len x1)), .val (.int (own_fr x1 x2)), .val (.int (own_to x1 x2 x3)), .val (.int (own_i2c x4)), .val (.ref b8), .val (.ref b15), .val (.int (0 : Int32)), .val (.int ((own_to x1 x2 x3) - (own_fr x1 x2)))] [(.int ((own_to x1 x2 x3) - (own_fr x1 x2))), (.int (own_fr x1 x2)), (.ref b1), (.int (own_c (own_fb x0) (fun _ => own_i2c (own_i2c x4)) (own_F x1 x2) (own_N x1 x2 x3) 4))]))
  refine own_of (fun _ kk => XS.iconst X21.here hx rfl (hb hby at_272) kk) ?_
  show own_Fin _ _ _ _ _ _ _ (T21.setTop (mkF m 273 #[.val (.long x0), .second, .val (.int x1), .val (.int x2), .val (.int x3), .val (.int x4), .val (.ref b1), .val (.int (own_len x1)), .val (.int (own_fr x1 x2)), .val (.int (own_to x1 x2 x3)), .val (.int (own_i2c x4)), .val (.ref b8), .val (.ref b15), .val (.int (0 : Int32)), .val (.int ((own_to x1 x2 x3) - (own_fr x1 x2)))] [(.int (4 : Int32)), (.int ((own_to x1 x2 x3) - (own_fr x1 x2))), (.int (own_fr x1 x2)), (.ref b1), (.int (own_c (own_fb x0) (fun _ => own_i2c (own_i2c x4)) (own_F x1 x2) (own_N x1 x2 x3) 4))]))
  refine own_of (fun _ kk => XS.iload X21.here hx rfl (hb hby at_273) rfl kk) ?_
  show own_Fin _ _ _ _ _ _ _ (T21.setTop (mkF m 275 #[.val (.long x0), .second, .val (.int x1), .val (.int x2), .val (.int x3), .val (.int x4), .val (.ref b1), .val (.int (own_len x1)), .val (.int (own_fr x1 x2)), .val (.int (own_to x1 x2 x3)), .val (.int (own_i2c x4)), .val (.ref b8), .val (.ref b15), .val (.int (0 : Int32)), .val (.int ((own_to x1 x2 x3) - (own_fr x1 x2)))] [(.int (own_i2c x4)), (.int (4 : Int32)), (.int ((own_to x1 x2 x3) - (own_fr x1 x2))), (.int (own_fr x1 x2)), (.ref b1), (.int (own_c (own_fb x0) (fun _ => own_i2c (own_i2c x4)) (own_F x1 x2) (own_N x1 x2 x3) 4))]))
  refine own_callS X21 hx hZ hown (hw _ (List.mem_of_getElem? (i := 34) rfl)) (hw _ (List.mem_of_getElem? (i := 35) rfl)) (hw _ (List.mem_of_getElem? (i := 36) rfl)) (hw _ (List.mem_of_getElem? (i := 37) rfl)) (by decide) e21 (argsL := [(.ref b1), (.int (own_fr x1 x2)), (.int ((own_to x1 x2 x3) - (own_fr x1 x2))), (.int (4 : Int32)), (.int (own_i2c x4))]) (met7 l Z a0 hw b1 (own_fr x1 x2) ((own_to x1 x2 x3) - (own_fr x1 x2)) (4 : Int32) (own_i2c x4) 6 (own_fb x0) (own_F x1 x2 + 4) (own_fb x0 (own_F x1 x2 + 4)) h17 n0 Z17 O17.2.2.2.1 (fun q => own_hb x1 x2 x3 _ 4 (by decide) q) rfl) (W := 1) (by decide) (by decide) (by decide) (by decide) (by rw [hml]; rfl) pd_6 rfl (rest := [(.int (own_c (own_fb x0) (fun _ => own_i2c (own_i2c x4)) (own_F x1 x2) (own_N x1 x2 x3) 4))]) rfl (Nat.le_of_eq rfl) (hb hby at_275) ?_
  intro v22 T22 h22 L22 X22 e22 q22
  obtain ⟨rfl, qh22, rfl⟩ := q22
  rw [qh22] at e22
  have N22 := Fr.app N21 (Fr.nil n0)
  show own_Fin _ _ _ _ _ _ _ (T22.setTop (mkF m 278 #[.val (.long x0), .second, .val (.int x1), .val (.int x2), .val (.int x3), .val (.int x4), .val (.ref b1), .val (.int (own_len x1)), .val (.int (own_fr x1 x2)), .val (.int (own_to x1 x2 x3)), .val (.int (own_i2c x4)), .val (.ref b8), .val (.ref b15), .val (.int (0 : Int32)), .val (.int ((own_to x1 x2 x3) - (own_fr x1 x2)))] [(.int (own_e ((own_to x1 x2 x3) - (own_fr x1 x2)) (4 : Int32) (own_i2c x4) (own_fb x0 (own_F x1 x2 + 4)))), (.int (own_c (own_fb x0) (fun _ => own_i2c (own_i2c x4)) (own_F x1 x2) (own_N x1 x2 x3) 4))]))
  refine own_of (fun _ kk => XS.icmpNo X22.here hx rfl (hb hby at_278) rfl (teq (own_eq x0 x1 x2 x3 x4 (4 : Int32) 4 (by decide))).2 kk) ?_
  show own_Fin _ _ _ _ _ _ _ (T22.setTop (mkF m 281 #[.val (.long x0), .second, .val (.int x1), .val (.int x2), .val (.int x3), .val (.int x4), .val (.ref b1), .val (.int (own_len x1)), .val (.int (own_fr x1 x2)), .val (.int (own_to x1 x2 x3)), .val (.int (own_i2c x4)), .val (.ref b8), .val (.ref b15), .val (.int (0 : Int32)), .val (.int ((own_to x1 x2 x3) - (own_fr x1 x2)))] []))
  refine own_of (fun _ kk => XS.aload X22.here hx rfl (hb hby at_281) rfl rfl kk) ?_
  show own_Fin _ _ _ _ _ _ _ (T22.setTop (mkF m 283 #[.val (.long x0), .second, .val (.int x1), .val (.int x2), .val (.int x3), .val (.int x4), .val (.ref b1), .val (.int (own_len x1)), .val (.int (own_fr x1 x2)), .val (.int (own_to x1 x2 x3)), .val (.int (own_i2c x4)), .val (.ref b8), .val (.ref b15), .val (.int (0 : Int32)), .val (.int ((own_to x1 x2 x3) - (own_fr x1 x2)))] [(.ref b8)]))
  refine own_of (fun _ kk => XS.iconst X22.here hx rfl (hb hby at_283) kk) ?_
  show own_Fin _ _ _ _ _ _ _ (T22.setTop (mkF m 284 #[.val (.long x0), .second, .val (.int x1), .val (.int x2), .val (.int x3), .val (.int x4), .val (.ref b1), .val (.int (own_len x1)), .val (.int (own_fr x1 x2)), .val (.int (own_to x1 x2 x3)), .val (.int (own_i2c x4)), .val (.ref b8), .val (.ref b15), .val (.int (0 : Int32)), .val (.int ((own_to x1 x2 x3) - (own_fr x1 x2)))] [(.int (5 : Int32)), (.ref b8)]))
  refine own_caload X22 hx hZ e22 C17 (i := 5) (by decide) (by decide) (v := (.int (own_c (own_fb x0) (fun _ => own_i2c (own_i2c x4)) (own_F x1 x2) (own_N x1 x2 x3) 5))) rfl (hb hby at_284) ?_
  show own_Fin _ _ _ _ _ _ _ (T22.setTop (mkF m 285 #[.val (.long x0), .second, .val (.int x1), .val (.int x2), .val (.int x3), .val (.int x4), .val (.ref b1), .val (.int (own_len x1)), .val (.int (own_fr x1 x2)), .val (.int (own_to x1 x2 x3)), .val (.int (own_i2c x4)), .val (.ref b8), .val (.ref b15), .val (.int (0 : Int32)), .val (.int ((own_to x1 x2 x3) - (own_fr x1 x2)))] [(.int (own_c (own_fb x0) (fun _ => own_i2c (own_i2c x4)) (own_F x1 x2) (own_N x1 x2 x3) 5))]))
  refine own_of (fun _ kk => XS.aload X22.here hx rfl (hb hby at_285) rfl rfl kk) ?_
  show own_Fin _ _ _ _ _ _ _ (T22.setTop (mkF m 287 #[.val (.long x0), .second, .val (.int x1), .val (.int x2), .val (.int x3), .val (.int x4), .val (.ref b1), .val (.int (own_len x1)), .val (.int (own_fr x1 x2)), .val (.int (own_to x1 x2 x3)), .val (.int (own_i2c x4)), .val (.ref b8), .val (.ref b15), .val (.int (0 : Int32)), .val (.int ((own_to x1 x2 x3) - (own_fr x1 x2)))] [(.ref b1), (.int (own_c (own_fb x0) (fun _ => own_i2c (own_i2c x4)) (own_F x1 x2) (own_N x1 x2 x3) 5))]))
  refine own_of (fun _ kk => XS.iload X22.here hx rfl (hb hby at_287) rfl kk) ?_
  show own_Fin _ _ _ _ _ _ _ (T22.setTop (mkF m 289 #[.val (.long x0), .second, .val (.int x1), .val (.int x2), .val (.int x3), .val (.int x4), .val (.ref b1), .val (.int (own_len x1)), .val (.int (own_fr x1 x2)), .val (.int (own_to x1 x2 x3)), .val (.int (own_i2c x4)), .val (.ref b8), .val (.ref b15), .val (.int (0 : Int32)), .val (.int ((own_to x1 x2 x3) - (own_fr x1 x2)))] [(.int (own_fr x1 x2)), (.ref b1), (.int (own_c (own_fb x0) (fun _ => own_i2c (own_i2c x4)) (own_F x1 x2) (own_N x1 x2 x3) 5))]))
  refine own_of (fun _ kk => XS.iload X22.here hx rfl (hb hby at_289) rfl kk) ?_
  show own_Fin _ _ _ _ _ _ _ (T22.setTop (mkF m 291 #[.val (.long x0), .second, .val (.int x1), .val (.int x2), .val (.int x3), .val (.int x4), .val (.ref b1), .val (.int (own_len x1)), .val (.int (own_fr x1 x2)), .val (.int (own_to x1 x2 x3)), .val (.int (own_i2c x4)), .val (.ref b8), .val (.ref b15), .val (.int (0 : Int32)), .val (.int ((own_to x1 x2 x3) - (own_fr x1 x2)))] [(.int ((own_to x1 x2 x3) - (own_fr x1 x2))), (.int (own_fr x1 x2)), (.ref b1), (.int (own_c (own_fb x0) (fun _ => own_i2c (own_i2c x4)) (own_F x1 x2) (own_N x1 x2 x3) 5))]))
  refine own_of (fun _ kk => XS.iconst X22.here hx rfl (hb hby at_291) kk) ?_
  show own_Fin _ _ _ _ _ _ _ (T22.setTop (mkF m 292 #[.val (.long x0), .second, .val (.int x1), .val (.int x2), .val (.int x3), .val (.int x4), .val (.ref b1), .val (.int (own_len x1)), .val (.int (own_fr x1 x2)), .val (.int (own_to x1 x2 x3)), .val (.int (own_i2c x4)), .val (.ref b8), .val (.ref b15), .val (.int (0 : Int32)), .val (.int ((own_to x1 x2 x3) - (own_fr x1 x2)))] [(.int (5 : Int32)), (.int ((own_to x1 x2 x3) - (own_fr x1 x2))), (.int (own_fr x1 x2)), (.ref b1), (.int (own_c (own_fb x0) (fun _ => own_i2c (own_i2c x4)) (own_F x1 x2) (own_N x1 x2 x3) 5))]))
  refine own_of (fun _ kk => XS.iload X22.here hx rfl (hb hby at_292) rfl kk) ?_
  show own_Fin _ _ _ _ _ _ _ (T22.setTop (mkF m 294 #[.val (.long x0), .second, .val (.int x1), .val (.int x2), .val (.int x3), .val (.int x4), .val (.ref b1), .val (.int (own_len x1)), .val (.int (own_fr x1 x2)), .val (.int (own_to x1 x2 x3)), .val (.int (own_i2c x4)), .val (.ref b8), .val (.ref b15), .val (.int (0 : Int32)), .val (.int ((own_to x1 x2 x3) - (own_fr x1 x2)))] [(.int (own_i2c x4)), (.int (5 : Int32)), (.int ((own_to x1 x2 x3) - (own_fr x1 x2))), (.int (own_fr x1 x2)), (.ref b1), (.int (own_c (own_fb x0) (fun _ => own_i2c (own_i2c x4)) (own_F x1 x2) (own_N x1 x2 x3) 5))]))
  refine own_callS X22 hx hZ hown (hw _ (List.mem_of_getElem? (i := 34) rfl)) (hw _ (List.mem_of_getElem? (i := 35) rfl)) (hw _ (List.mem_of_getElem? (i := 36) rfl)) (hw _ (List.mem_of_getElem? (i := 37) rfl)) (by decide) e22 (argsL := [(.ref b1), (.int (own_fr x1 x2)), (.int ((own_to x1 x2 x3) - (own_fr x1 x2))), (.int (5 : Int32)), (.int (own_i2c x4))]) (met7 l Z a0 hw b1 (own_fr x1 x2) ((own_to x1 x2 x3) - (own_fr x1 x2)) (5 : Int32) (own_i2c x4) 6 (own_fb x0) (own_F x1 x2 + 5) (own_fb x0 (own_F x1 x2 + 5)) h17 n0 Z17 O17.2.2.2.1 (fun q => own_hb x1 x2 x3 _ 5 (by decide) q) rfl) (W := 1) (by decide) (by decide) (by decide) (by decide) (by rw [hml]; rfl) pd_6 rfl (rest := [(.int (own_c (own_fb x0) (fun _ => own_i2c (own_i2c x4)) (own_F x1 x2) (own_N x1 x2 x3) 5))]) rfl (Nat.le_of_eq rfl) (hb hby at_294) ?_
  intro v23 T23 h23 L23 X23 e23 q23
  obtain ⟨rfl, qh23, rfl⟩ := q23
  rw [qh23] at e23
  have N23 := Fr.app N22 (Fr.nil n0)
  show own_Fin _ _ _ _ _ _ _ (T23.setTop (mkF m 297 #[.val (.long x0), .second, .val (.int x1), .val (.int x2), .val (.int x3), .val (.int x4), .val (.ref b1), .val (.int (own_len x1)), .val (.int (own_fr x1 x2)), .val (.int (own_to x1 x2 x3)), .val (.int (own_i2c x4)), .val (.ref b8), .val (.ref b15), .val (.int (0 : Int32)), .val (.int ((own_to x1 x2 x3) - (own_fr x1 x2)))] [(.int (own_e ((own_to x1 x2 x3) - (own_fr x1 x2)) (5 : Int32) (own_i2c x4) (own_fb x0 (own_F x1 x2 + 5)))), (.int (own_c (own_fb x0) (fun _ => own_i2c (own_i2c x4)) (own_F x1 x2) (own_N x1 x2 x3) 5))]))
  refine own_of (fun _ kk => XS.icmpNo X23.here hx rfl (hb hby at_297) rfl (teq (own_eq x0 x1 x2 x3 x4 (5 : Int32) 5 (by decide))).2 kk) ?_
  show own_Fin _ _ _ _ _ _ _ (T23.setTop (mkF m 300 #[.val (.long x0), .second, .val (.int x1), .val (.int x2), .val (.int x3), .val (.int x4), .val (.ref b1), .val (.int (own_len x1)), .val (.int (own_fr x1 x2)), .val (.int (own_to x1 x2 x3)), .val (.int (own_i2c x4)), .val (.ref b8), .val (.ref b15), .val (.int (0 : Int32)), .val (.int ((own_to x1 x2 x3) - (own_fr x1 x2)))] []))
  refine own_of (fun _ kk => XS.iconst X23.here hx rfl (hb hby at_300) kk) ?_
  show own_Fin _ _ _ _ _ _ _ (T23.setTop (mkF m 301 #[.val (.long x0), .second, .val (.int x1), .val (.int x2), .val (.int x3), .val (.int x4), .val (.ref b1), .val (.int (own_len x1)), .val (.int (own_fr x1 x2)), .val (.int (own_to x1 x2 x3)), .val (.int (own_i2c x4)), .val (.ref b8), .val (.ref b15), .val (.int (0 : Int32)), .val (.int ((own_to x1 x2 x3) - (own_fr x1 x2)))] [(.int (1 : Int32))]))
  refine own_of (fun _ kk => XS.goto X23.here hx rfl (pc0 := 301) (pc' := 305) rfl (hb hby at_301) (by decide) (by decide) kk) ?_
  show own_Fin _ _ _ _ _ _ _ (T23.setTop (mkF m 305 #[.val (.long x0), .second, .val (.int x1), .val (.int x2), .val (.int x3), .val (.int x4), .val (.ref b1), .val (.int (own_len x1)), .val (.int (own_fr x1 x2)), .val (.int (own_to x1 x2 x3)), .val (.int (own_i2c x4)), .val (.ref b8), .val (.ref b15), .val (.int (0 : Int32)), .val (.int ((own_to x1 x2 x3) - (own_fr x1 x2)))] [(.int (1 : Int32))]))
  exact own_retN X23 hx hlk e23 (t := .boolean) hret (by simp) (hb hby at_305) (by decide) (by decide) (z' := (1 : Int32)) (by decide) ⟨rfl, N23⟩
set_option maxRecDepth 65536 in
set_option maxHeartbeats 40000000 in
theorem comes_1 {Post : Tables → Env → Array Value → State → Outcome → State → Prop} (hpost : ∀ tb e args s v u, (limb_1_1.after args s (.returned v) u = true ∧ limb_1_2.after args s (.returned v) u = true ∧ True) → FrameEnd s (.returned v) u (Jvm.fieldLocs frame_1_writes args s ++ Jvm.arrayLocs frame_1_arrays args s ++ Jvm.staticLocs frame_1_statics s) 16 128 → Post tb e args s (.returned v) u) :
    ArmFor flags0 classFile x code maxLocals ret World_1 tables_1 room_1 Calls_1 rest_1 Pre_1 Post := by
  intro l hfl _ _ p e ha hc hk s m args below hf hA hF happ hP
  obtain ⟨hcalls, hrest, hpre⟩ := hP
  obtain ⟨-, -, -, hnamed, -, -, -, hat⟩ := (Spec.applies_iff hf).mp happ
  obtain ⟨hg, hn⟩ := and_e (Cond.before_iff.mp (show (Jvm.Cond.and given_1 narrow_1).before args s = true from hpre))
  obtain ⟨g1, g2⟩ := and_e hg
  obtain ⟨g3, g4⟩ := and_e g2
  obtain ⟨g5, g6⟩ := and_e g4
  obtain ⟨g7, g8⟩ := and_e g6
  obtain ⟨g9, g10⟩ := and_e g8
  obtain ⟨w0, w1, w2, w3, w4, rfl⟩ : ∃ w0 w1 w2 w3 w4 : Value, args = #[w0, w1, w2, w3, w4] := by
    have hs : args.size = 5 := by simpa [Cond.value, given_1] using g1
    obtain ⟨L⟩ := args
    match L, hs with
    | [w0, w1, w2, w3, w4], _ => exact ⟨w0, w1, w2, w3, w4, rfl⟩
  have hw := fun d (hd : d ∈ tables_1) => atoms_spec (ws := Jvm.Cond.code x code maxLocals ret :: tables_1) hat d (List.mem_cons_of_mem _ hd)
  obtain ⟨i0, ei0⟩ := isL_v g3
  obtain rfl : w0 = (.long i0) := Option.some.inj ei0
  obtain ⟨i1, ei1⟩ := is_v g5
  obtain rfl : w1 = (.int i1) := Option.some.inj ei1
  obtain ⟨i2, ei2⟩ := is_v g7
  obtain rfl : w2 = (.int i2) := Option.some.inj ei2
  obtain ⟨i3, ei3⟩ := is_v g9
  obtain rfl : w3 = (.int i3) := Option.some.inj ei3
  obtain ⟨i4, ei4⟩ := is_v g10
  obtain rfl : w4 = (.int i4) := Option.some.inj ei4
  obtain ⟨n, o, h1, h2, h3, _, L, rfl, ⟨rfl, N⟩, hq⟩ := own_law l s _ hw i0 i1 i2 i3 i4 s.heap s.heap.size (Nat.le_refl _) tables_1 p e ha hc hk s m _ below hf ((Spec.applies_iff_loose hf).mp happ).1 ⟨rfl, State.Warmed39.refl s, rfl⟩ trivial
  refine ⟨n, _, h1, h2, h3, hpost _ _ _ _ _ _ ⟨Cond.after_iff.mpr rfl, Cond.after_iff.mpr (eq_i res_at (Term.int_eval (1)) rfl), trivial⟩ ⟨hq.1, hq.2.1, (hq.2.2.sift fun y hy => Or.inr (N y hy)).mono (by decide) (by decide)⟩⟩
theorem main_1_1 : Claimed_1_1 := comes_1 fun _ _ _ _ _ _ h hF => ⟨h.1, hF⟩
theorem main_1_2 : Claimed_1_2 := comes_1 fun _ _ _ _ _ _ h hF => ⟨h.2.1, hF⟩
end Jvm.Pilot.@@N@@
namespace Jvm.Pilot.@@N@@
open Jvm Jvm.ClassFile Sem Op Lib Jvm.Free Jvm.Stand Jvm.Pilot.@@N@@.Jvm.D
/-! MADE BY PROGRAM (witnessworld.py) out of the Statement's table words and the real class files: 15 classes; the members and pool entries that the words name. The judged class is class 1, her method 1. -/
namespace start1
open Jvm.ClassFile
def u (s : String) : CpInfo := .utf8 (stringToUtf16 s)
/-- a pool by its gaps: so many unusable entries, then the entry; so many at the end -/
def gap : Nat → List CpInfo → List CpInfo
  | 0, r => r
  | n + 1, r => .unusable :: gap n r
def poolList (es : List (Nat × CpInfo)) (last : Nat) : List CpInfo := es.foldr (fun e r => gap e.1 (e.2 :: r)) (gap last [])
def pool (es : List (Nat × CpInfo)) (last : Nat) : Array CpInfo := ⟨poolList es last⟩
def fileOf (pool : Array CpInfo) (this : Nat) (attrs : Array Attribute := #[]) (ms : Array MethodInfo := #[]) (fl : Nat := 33) (sup : Nat := 0) (ifs : Array Nat := #[]) (fds : Array FieldInfo := #[]) : ClassFile where
  minorVersion := 0
  majorVersion := 65
  constantPool := pool
  accessFlags := fl
  thisClass := this
  superClass := sup
  interfaces := ifs
  fields := fds
  methods := ms
  attributes := attrs
def plain (name : String) (sup : Option ClassId) : Class where
  name := name
  kind := .ordinary
  loader := none
  accessFlags := 33
  super := sup
  interfaces := #[]
  cf := none
  fields := #[]
  methods := #[]
  instanceTypes := #[]
  staticTypes := #[]
  resolved := #[]
  callSites := []
  init := .initialized
  statics := none
  mirror := none

def pool0 : Array CpInfo := pool [(5, u "<init>"), (0, u "()V"), (1, .class_ 10), (1, u "java/lang/Object")] 113

def k0c0 : Code := { maxStack := 0, maxLocals := 1, code := object_method_1_code, exceptionTable := #[], attributes := #[] }
def k0m0 : Method := { name := "<init>", desc := "()V", sig := { parameters := [], returnType := none }, accessFlags := 1, code := some k0c0 }
/-- java/lang/Object -/
def k0 : Class := { plain "java/lang/Object" none with
  accessFlags := 33
  interfaces := #[]
  cf := some (fileOf pool0 8 #[] #[{ accessFlags := 1, nameIndex := 5, descriptorIndex := 6, attributes := #[] }] 33 0 #[] #[])
  fields := #[]
  methods := #[k0m0]
  instanceTypes := #[]
  staticTypes := #[]
  resolved := Array.replicate 124 none
  statics := none }

def pool1 : Array CpInfo := pool [(2, .class_ 4), (1, u "java/lang/Object"), (0, u "<init>"), (0, u "()V"), (0, .integer 2147483647), (0, .class_ 9), (0, u "com/example/needle_in_text/needleintext/text/ByteText"), (0, .methodref 8 11), (0, .nameAndType 5 12), (0, u "([BI)V"), (0, .methodref 8 14), (0, .nameAndType 15 16), (0, u "copySymbols"), (0, u "(II[C)Z"), (0, .methodref 18 19), (0, .class_ 20), (0, .nameAndType 21 22), (0, u "com/example/needle_in_text/needleintext/text/ByteTextCopySymbolsPinLaw"), (0, u "expected"), (0, u "([BIIIC)C"), (2, u "law"), (0, u "(JIIII)Z")] 7

def k1m0 : Method := { name := "<init>", desc := "()V", sig := { parameters := [], returnType := none }, accessFlags := 1, code := none }
def k1c1 : Code := { maxStack := 6, maxLocals := 15, code := code, exceptionTable := #[], attributes := #[] }
def k1m1 : Method := { name := "law", desc := "(JIIII)Z", sig := { parameters := [.long, .int, .int, .int, .int], returnType := some .boolean }, accessFlags := 9, code := some k1c1 }
def k1c2 : Code := { maxStack := 3, maxLocals := 6, code := method_3_code, exceptionTable := #[], attributes := #[] }
def k1m2 : Method := { name := "expected", desc := "([BIIIC)C", sig := { parameters := [(.array .byte), .int, .int, .int, .char], returnType := some .char }, accessFlags := 10, code := some k1c2 }
/-- com/example/needle_in_text/needleintext/text/ByteTextCopySymbolsPinLaw -/
def k1 : Class := { plain "com/example/needle_in_text/needleintext/text/ByteTextCopySymbolsPinLaw" (some 0) with
  accessFlags := 49
  interfaces := #[]
  cf := some (fileOf pool1 18 #[] #[{ accessFlags := 1, nameIndex := 5, descriptorIndex := 6, attributes := #[] }, { accessFlags := 9, nameIndex := 25, descriptorIndex := 26, attributes := #[] }, { accessFlags := 10, nameIndex := 21, descriptorIndex := 22, attributes := #[] }] 49 2 #[] #[])
  fields := #[]
  methods := #[k1m0, k1m1, k1m2]
  instanceTypes := #[]
  staticTypes := #[]
  resolved := Array.replicate 34 none
  statics := none }

def pool2 : Array CpInfo := pool [(31, .class_ 32), (0, u "com/example/needle_in_text/needleintext/text/Text"), (0, .class_ 34), (0, u "java/lang/Object")] 22

/-- com/example/needle_in_text/needleintext/text/Text -/
def k2 : Class := { plain "com/example/needle_in_text/needleintext/text/Text" (some 0) with
  accessFlags := 1537
  interfaces := #[]
  cf := some (fileOf pool2 31 #[] #[] 1537 33 #[] #[])
  fields := #[]
  methods := #[]
  instanceTypes := #[]
  staticTypes := #[]
  resolved := Array.replicate 57 none
  statics := none }

def pool3 : Array CpInfo := pool [(27, .class_ 28), (0, u "com/example/needle_in_text/needleintext/text/Lanes"), (0, .class_ 30), (0, u "java/lang/Object"), (0, u "LANES"), (0, u "I")] 24

/-- com/example/needle_in_text/needleintext/text/Lanes -/
def k3 : Class := { plain "com/example/needle_in_text/needleintext/text/Lanes" (some 0) with
  accessFlags := 1537
  interfaces := #[]
  cf := some (fileOf pool3 27 #[] #[] 1537 29 #[] #[{ accessFlags := 25, nameIndex := 31, descriptorIndex := 32, attributes := #[] }])
  fields := #[{ name := "LANES", type := .int, accessFlags := 25, slot := 0, constantValue := 0 }]
  methods := #[]
  instanceTypes := #[]
  staticTypes := #[.int]
  resolved := Array.replicate 57 none
  statics := none }

def pool4 : Array CpInfo := pool [(1, .methodref 2 3), (0, .class_ 4), (0, .nameAndType 5 6), (0, u "java/lang/Object"), (0, u "<init>"), (0, u "()V"), (0, .methodref 8 9), (0, .class_ 10), (0, .nameAndType 11 12), (0, u "com/example/needle_in_text/needleintext/text/ByteText"), (0, u "view"), (0, u "([BI)V"), (0, .fieldref 8 14), (0, .nameAndType 15 16), (0, u "bytes"), (0, u "[B"), (0, .fieldref 8 18), (0, .nameAndType 19 20), (0, u "length"), (0, u "I"), (1, .class_ 24), (1, u "java/util/Objects"), (2, .methodref 22 28), (0, .nameAndType 29 30), (0, u "checkFromToIndex"), (0, u "(III)I"), (6, .class_ 38), (0, u "com/example/needle_in_text/needleintext/text/Lanes"), (6, u "WORDS"), (0, u "Ljava/lang/invoke/VarHandle;"), (20, .class_ 68), (0, u "com/example/needle_in_text/needleintext/text/Text"), (0, u "ALPHABET_SIZE"), (8, u "copySymbols"), (0, u "(II[C)Z")] 16

def k4c0 : Code := { maxStack := 3, maxLocals := 3, code := prog_61_method_1_code, exceptionTable := #[], attributes := #[] }
def k4m0 : Method := { name := "<init>", desc := "([BI)V", sig := { parameters := [(.array .byte), .int], returnType := none }, accessFlags := 0, code := some k4c0 }
def k4c1 : Code := { maxStack := 2, maxLocals := 3, code := prog_61_method_2_code, exceptionTable := #[], attributes := #[] }
def k4m1 : Method := { name := "view", desc := "([BI)V", sig := { parameters := [(.array .byte), .int], returnType := none }, accessFlags := 0, code := some k4c1 }
def k4c2 : Code := { maxStack := 4, maxLocals := 5, code := prog_61_method_6_code, exceptionTable := #[], attributes := #[] }
def k4m2 : Method := { name := "copySymbols", desc := "(II[C)Z", sig := { parameters := [.int, .int, (.array .char)], returnType := some .boolean }, accessFlags := 1, code := some k4c2 }
/-- com/example/needle_in_text/needleintext/text/ByteText -/
def k4 : Class := { plain "com/example/needle_in_text/needleintext/text/ByteText" (some 0) with
  accessFlags := 48
  interfaces := #[2, 3]
  cf := some (fileOf pool4 8 #[] #[{ accessFlags := 0, nameIndex := 5, descriptorIndex := 12, attributes := #[] }, { accessFlags := 0, nameIndex := 11, descriptorIndex := 12, attributes := #[] }, { accessFlags := 1, nameIndex := 78, descriptorIndex := 79, attributes := #[] }] 48 2 #[67, 37] #[{ accessFlags := 26, nameIndex := 69, descriptorIndex := 20, attributes := #[] }, { accessFlags := 24, nameIndex := 45, descriptorIndex := 46, attributes := #[] }, { accessFlags := 2, nameIndex := 15, descriptorIndex := 16, attributes := #[] }, { accessFlags := 2, nameIndex := 19, descriptorIndex := 20, attributes := #[] }])
  fields := #[{ name := "ALPHABET_SIZE", type := .int, accessFlags := 26, slot := 0, constantValue := 0 }, { name := "WORDS", type := (.object "java/lang/invoke/VarHandle"), accessFlags := 24, slot := 1, constantValue := 0 }, { name := "bytes", type := (.array .byte), accessFlags := 2, slot := 0, constantValue := 0 }, { name := "length", type := .int, accessFlags := 2, slot := 1, constantValue := 0 }]
  methods := #[k4m0, k4m1, k4m2]
  instanceTypes := #[(.array .byte), .int]
  staticTypes := #[.int, (.object "java/lang/invoke/VarHandle")]
  resolved := Array.replicate 96 none
  statics := none }

def pool5 : Array CpInfo := pool [(2, .class_ 4), (1, u "java/lang/Object"), (0, u "<init>"), (0, u "()V"), (35, .class_ 44), (1, u "java/util/Objects"), (61, .class_ 108), (1, u "jdk/internal/util/Preconditions"), (2, .methodref 106 112), (0, .nameAndType 113 114), (0, u "checkFromToIndex"), (0, u "(IIILjava/util/function/BiFunction;)I"), (60, u "(III)I")] 8

def k5m0 : Method := { name := "<init>", desc := "()V", sig := { parameters := [], returnType := none }, accessFlags := 2, code := none }
def k5c1 : Code := { maxStack := 4, maxLocals := 3, code := jdk_31_method_18_code, exceptionTable := #[], attributes := #[] }
def k5m1 : Method := { name := "checkFromToIndex", desc := "(III)I", sig := { parameters := [.int, .int, .int], returnType := some .int }, accessFlags := 9, code := some k5c1 }
/-- java/util/Objects -/
def k5 : Class := { plain "java/util/Objects" (some 0) with
  accessFlags := 49
  interfaces := #[]
  cf := some (fileOf pool5 42 #[] #[{ accessFlags := 2, nameIndex := 5, descriptorIndex := 6, attributes := #[] }, { accessFlags := 9, nameIndex := 113, descriptorIndex := 175, attributes := #[] }] 49 2 #[] #[])
  fields := #[]
  methods := #[k5m0, k5m1]
  instanceTypes := #[]
  staticTypes := #[]
  resolved := Array.replicate 184 none
  statics := none }

def pool6 : Array CpInfo := pool [(2, .class_ 4), (1, u "java/lang/Object"), (0, u "<init>"), (0, u "()V"), (17, .class_ 26), (1, u "jdk/internal/util/Preconditions"), (20, u "checkFromToIndex"), (7, .class_ 56), (0, u "jdk/internal/util/Preconditions$4"), (57, .class_ 115), (0, u "jdk/internal/util/Preconditions$1"), (7, u "SIOOBE_FORMATTER"), (0, u "Ljava/util/function/BiFunction;"), (0, .class_ 126), (0, u "jdk/internal/util/Preconditions$2"), (3, u "AIOOBE_FORMATTER"), (0, .class_ 132), (0, u "jdk/internal/util/Preconditions$3"), (3, u "IOOBE_FORMATTER"), (46, u "(IIILjava/util/function/BiFunction;)I")] 10

def k6m0 : Method := { name := "<init>", desc := "()V", sig := { parameters := [], returnType := none }, accessFlags := 1, code := none }
def k6c1 : Code := { maxStack := 4, maxLocals := 4, code := jdk_41_method_12_code, exceptionTable := #[], attributes := #[] }
def k6m1 : Method := { name := "checkFromToIndex", desc := "(IIILjava/util/function/BiFunction;)I", sig := { parameters := [.int, .int, .int, (.object "java/util/function/BiFunction")], returnType := some .int }, accessFlags := 9, code := some k6c1 }
/-- jdk/internal/util/Preconditions -/
def k6 : Class := { plain "jdk/internal/util/Preconditions" (some 0) with
  accessFlags := 33
  interfaces := #[]
  cf := some (fileOf pool6 24 #[.nestMembers #[55, 131, 125, 114]] #[{ accessFlags := 1, nameIndex := 5, descriptorIndex := 6, attributes := #[] }, { accessFlags := 9, nameIndex := 47, descriptorIndex := 183, attributes := #[] }] 33 2 #[] #[{ accessFlags := 25, nameIndex := 123, descriptorIndex := 124, attributes := #[] }, { accessFlags := 25, nameIndex := 130, descriptorIndex := 124, attributes := #[] }, { accessFlags := 25, nameIndex := 136, descriptorIndex := 124, attributes := #[] }])
  fields := #[{ name := "SIOOBE_FORMATTER", type := (.object "java/util/function/BiFunction"), accessFlags := 25, slot := 0, constantValue := 0 }, { name := "AIOOBE_FORMATTER", type := (.object "java/util/function/BiFunction"), accessFlags := 25, slot := 1, constantValue := 0 }, { name := "IOOBE_FORMATTER", type := (.object "java/util/function/BiFunction"), accessFlags := 25, slot := 2, constantValue := 0 }]
  methods := #[k6m0, k6m1]
  instanceTypes := #[]
  staticTypes := #[(.object "java/util/function/BiFunction"), (.object "java/util/function/BiFunction"), (.object "java/util/function/BiFunction")]
  resolved := Array.replicate 194 none
  statics := none }

def pool7 : Array CpInfo := pool [(1, u "java/lang/Cloneable"), (0, .class_ 1), (0, u "java/lang/Object"), (0, .class_ 3)] 3

/-- java/lang/Cloneable -/
def k7 : Class := { plain "java/lang/Cloneable" (some 0) with
  accessFlags := 1537
  interfaces := #[]
  cf := some (fileOf pool7 2 #[] #[] 1537 4 #[] #[])
  fields := #[]
  methods := #[]
  instanceTypes := #[]
  staticTypes := #[]
  resolved := Array.replicate 8 none
  statics := none }

def pool8 : Array CpInfo := pool [(1, u "java/io/Serializable"), (0, .class_ 1), (0, u "java/lang/Object"), (0, .class_ 3)] 3

/-- java/io/Serializable -/
def k8 : Class := { plain "java/io/Serializable" (some 0) with
  accessFlags := 1537
  interfaces := #[]
  cf := some (fileOf pool8 2 #[] #[] 1537 4 #[] #[])
  fields := #[]
  methods := #[]
  instanceTypes := #[]
  staticTypes := #[]
  resolved := Array.replicate 8 none
  statics := none }

/-- the primitive byte -/
def k9 : Class := { plain "byte" none with kind := .primitive 'B', accessFlags := 0x411 }
/-- [B -/
def k10 : Class := { plain "[B" (some 0) with kind := .array 9 .byte, interfaces := #[7, 8], accessFlags := 1041 }

/-- the primitive char -/
def k11 : Class := { plain "char" none with kind := .primitive 'C', accessFlags := 0x411 }
/-- [C -/
def k12 : Class := { plain "[C" (some 0) with kind := .array 11 .char, interfaces := #[7, 8], accessFlags := 1041 }

/-- the primitive int -/
def k13 : Class := { plain "int" none with kind := .primitive 'I', accessFlags := 0x411 }
/-- [I -/
def k14 : Class := { plain "[I" (some 0) with kind := .array 13 .int, interfaces := #[7, 8], accessFlags := 1041 }

def heap : Heap := #[]
def classes : Array Class := #[k0, k1, k2, k3, k4, k5, k6, k7, k8, k9, k10, k11, k12, k13, k14]
def interned : List (Array UInt16 × Addr) := []
def slotsUsed : Nat := 0
def theMethod : MethodId := ⟨1, 1⟩
def args0 : Array Value := #[.long 5, .int 7, .int 1, .int 2, .int 3]
def aboutOver (below : List Frame) : State where
  vm := { classes := classes, interned := interned.toArray }
  heap := heap
  slotsUsed := slotsUsed
  threads := #[{ frames := .invoking theMethod args0 :: below }]
def below0 : List Frame := [.native { method := ⟨0, 0⟩, args := #[] }]
def about1 : State := aboutOver below0
def p0 : Program := .bare "" "" ""
def e0 : Env := launch0.env 0 0 0
theorem w_frames : about1.frames = Frame.invoking theMethod args0 :: below0 := rfl
set_option maxRecDepth 65536 in
theorem w_args : argsFit about1.vm theMethod args0 = true := by decide +kernel
set_option maxRecDepth 65536 in
theorem w_heap : heapFits about1 = true := by decide +kernel
set_option maxRecDepth 65536 in
theorem w_runnable : about1.curStatus? = some .runnable := by decide +kernel
set_option maxRecDepth 65536 in
theorem w_alone : about1.alone = true := by decide +kernel
set_option maxRecDepth 65536 in
theorem w_named : about1.methodNamed? x = some theMethod := by decide +kernel
set_option maxRecDepth 65536 in
theorem w_hears : about1.hears theMethod below0 = true := by decide +kernel
set_option maxRecDepth 65536 in
theorem w_ripe : about1.ripe theMethod args0 below0 = true := by decide +kernel
theorem w_running : about1.status = .running := rfl
set_option maxRecDepth 65536 in
theorem w_room : about1.hasRoom e0.platform room_1 = true :=
  launch0.hasRoom_least _ room_1 (by decide +kernel) (by decide +kernel) (by decide +kernel) (by decide +kernel) (by decide +kernel) (by decide +kernel)
theorem allAtoms_all (ts : List Jvm.Cond) (a : Array Jvm.Value) (st : Jvm.State) : (allAtoms ts).before a st = ts.all (fun c => c.before a st) := by
  induction ts with
  | nil => rfl
  | cons c t ih =>
    show (Jvm.Cond.and c (allAtoms t)).before a st = _
    rw [Jvm.Cond.before_and, ih, List.all_cons]
def words1 : List Jvm.Cond := Jvm.Cond.code x code maxLocals ret :: tables_1
/-- a 'code' word, met by the world's own term for the bytes: nothing is compared byte by byte -/
theorem code_word {y : MethodName} {bytes : ByteArray} {mx : Nat} {rt : Option FieldType} {a : Array Value} {s : State} {m : MethodId} {meth : Method} {c : Code} (h1 : s.methodNamed? y = some m) (h2 : s.vm.method? m = some meth) (h3 : meth.code = some c) (h4 : c.code = bytes)
    (h5 : (c.maxLocals == mx && c.exceptionTable.isEmpty && decide (c.maxStack ≤ mostOperands) && decide (meth.sig.returnType = rt) && !meth.locks && decide (parseMethodDescriptor y.desc = some meth.sig)) = true) : (Jvm.Cond.code y bytes mx rt).before a s = true := by
  simp only [Bool.and_eq_true, beq_iff_eq, Bool.not_eq_true', decide_eq_true_eq] at h5
  obtain ⟨⟨⟨⟨⟨g1, g2⟩, g3⟩, g4⟩, g5⟩, g6⟩ := h5
  simp [Cond.before, Cond.holds, Cond.value, h1, h2, h3, h4, g1, g2, g3, g4, g5, g6]
def isCode : Jvm.Cond → Bool
  | .code _ _ _ _ => true
  | _ => false
theorem all_split {L : List Jvm.Cond} {P : Jvm.Cond → Bool} (h1 : L.all (fun c => isCode c || P c) = true) (h2 : ∀ c ∈ L.filter isCode, P c = true) : L.all P = true := by
  refine List.all_eq_true.mpr fun c hc => ?_
  have h := List.all_eq_true.mp h1 c hc
  rcases Bool.eq_false_or_eq_true (isCode c) with hi | hi
  · exact h2 c (List.mem_filter.mpr ⟨hc, hi⟩)
  · simpa [hi] using h
set_option maxRecDepth 65536 in
theorem w_c0 : (Jvm.Cond.code x code maxLocals ret).before args0 about1 = true := code_word (m := ⟨1, 1⟩) (meth := k1m1) (c := k1c1) (by decide +kernel) rfl rfl rfl (by decide +kernel)
set_option maxRecDepth 65536 in
theorem w_c1 : (Jvm.Cond.code ({ cls := "com/example/needle_in_text/needleintext/text/ByteText", name := "<init>", desc := "([BI)V" } : Jvm.MethodName) prog_61_method_1_code (3 : Nat) (Option.none : Option Jvm.ClassFile.FieldType)).before args0 about1 = true := code_word (m := ⟨4, 0⟩) (meth := k4m0) (c := k4c0) (by decide +kernel) rfl rfl rfl (by decide +kernel)
set_option maxRecDepth 65536 in
theorem w_c2 : (Jvm.Cond.code ({ cls := "java/lang/Object", name := "<init>", desc := "()V" } : Jvm.MethodName) object_method_1_code (1 : Nat) (Option.none : Option Jvm.ClassFile.FieldType)).before args0 about1 = true := code_word (m := ⟨0, 0⟩) (meth := k0m0) (c := k0c0) (by decide +kernel) rfl rfl rfl (by decide +kernel)
set_option maxRecDepth 65536 in
theorem w_c3 : (Jvm.Cond.code ({ cls := "com/example/needle_in_text/needleintext/text/ByteText", name := "view", desc := "([BI)V" } : Jvm.MethodName) prog_61_method_2_code (3 : Nat) (Option.none : Option Jvm.ClassFile.FieldType)).before args0 about1 = true := code_word (m := ⟨4, 1⟩) (meth := k4m1) (c := k4c1) (by decide +kernel) rfl rfl rfl (by decide +kernel)
set_option maxRecDepth 65536 in
theorem w_c4 : (Jvm.Cond.code ({ cls := "com/example/needle_in_text/needleintext/text/ByteText", name := "copySymbols", desc := "(II[C)Z" } : Jvm.MethodName) prog_61_method_6_code (5 : Nat) (Option.some Jvm.ClassFile.FieldType.boolean)).before args0 about1 = true := code_word (m := ⟨4, 2⟩) (meth := k4m2) (c := k4c2) (by decide +kernel) rfl rfl rfl (by decide +kernel)
set_option maxRecDepth 65536 in
theorem w_c5 : (Jvm.Cond.code ({ cls := "java/util/Objects", name := "checkFromToIndex", desc := "(III)I" } : Jvm.MethodName) jdk_31_method_18_code (3 : Nat) (Option.some Jvm.ClassFile.FieldType.int)).before args0 about1 = true := code_word (m := ⟨5, 1⟩) (meth := k5m1) (c := k5c1) (by decide +kernel) rfl rfl rfl (by decide +kernel)
set_option maxRecDepth 65536 in
theorem w_c6 : (Jvm.Cond.code ({ cls := "jdk/internal/util/Preconditions", name := "checkFromToIndex", desc := "(IIILjava/util/function/BiFunction;)I" } : Jvm.MethodName) jdk_41_method_12_code (4 : Nat) (Option.some Jvm.ClassFile.FieldType.int)).before args0 about1 = true := code_word (m := ⟨6, 1⟩) (meth := k6m1) (c := k6c1) (by decide +kernel) rfl rfl rfl (by decide +kernel)
set_option maxRecDepth 65536 in
theorem w_c7 : (Jvm.Cond.code ({ cls := "com/example/needle_in_text/needleintext/text/ByteTextCopySymbolsPinLaw", name := "expected", desc := "([BIIIC)C" } : Jvm.MethodName) method_3_code (6 : Nat) (Option.some Jvm.ClassFile.FieldType.char)).before args0 about1 = true := code_word (m := ⟨1, 2⟩) (meth := k1m2) (c := k1c2) (by decide +kernel) rfl rfl rfl (by decide +kernel)
def codes1 : List Jvm.Cond := [Jvm.Cond.code x code maxLocals ret, Jvm.Cond.code ({ cls := "com/example/needle_in_text/needleintext/text/ByteText", name := "<init>", desc := "([BI)V" } : Jvm.MethodName) prog_61_method_1_code (3 : Nat) (Option.none : Option Jvm.ClassFile.FieldType), Jvm.Cond.code ({ cls := "java/lang/Object", name := "<init>", desc := "()V" } : Jvm.MethodName) object_method_1_code (1 : Nat) (Option.none : Option Jvm.ClassFile.FieldType), Jvm.Cond.code ({ cls := "com/example/needle_in_text/needleintext/text/ByteText", name := "view", desc := "([BI)V" } : Jvm.MethodName) prog_61_method_2_code (3 : Nat) (Option.none : Option Jvm.ClassFile.FieldType), Jvm.Cond.code ({ cls := "com/example/needle_in_text/needleintext/text/ByteText", name := "copySymbols", desc := "(II[C)Z" } : Jvm.MethodName) prog_61_method_6_code (5 : Nat) (Option.some Jvm.ClassFile.FieldType.boolean), Jvm.Cond.code ({ cls := "java/util/Objects", name := "checkFromToIndex", desc := "(III)I" } : Jvm.MethodName) jdk_31_method_18_code (3 : Nat) (Option.some Jvm.ClassFile.FieldType.int), Jvm.Cond.code ({ cls := "jdk/internal/util/Preconditions", name := "checkFromToIndex", desc := "(IIILjava/util/function/BiFunction;)I" } : Jvm.MethodName) jdk_41_method_12_code (4 : Nat) (Option.some Jvm.ClassFile.FieldType.int), Jvm.Cond.code ({ cls := "com/example/needle_in_text/needleintext/text/ByteTextCopySymbolsPinLaw", name := "expected", desc := "([BIIIC)C" } : Jvm.MethodName) method_3_code (6 : Nat) (Option.some Jvm.ClassFile.FieldType.char)]
set_option maxRecDepth 65536 in
theorem codes_eq : words1.filter isCode = codes1 := rfl
theorem w_codes : ∀ c ∈ words1.filter isCode, c.before args0 about1 = true := by
  rw [codes_eq]
  intro c hc
  simp only [codes1, List.mem_cons, List.not_mem_nil, or_false] at hc
  rcases hc with rfl | rfl | rfl | rfl | rfl | rfl | rfl | rfl
  · exact w_c0
  · exact w_c1
  · exact w_c2
  · exact w_c3
  · exact w_c4
  · exact w_c5
  · exact w_c6
  · exact w_c7
set_option maxRecDepth 65536 in
theorem w_t1 : (words1.take 24).all (fun c => isCode c || c.before args0 about1) = true := by decide +kernel
set_option maxRecDepth 65536 in
theorem w_t2 : (words1.drop 24).all (fun c => isCode c || c.before args0 about1) = true := by decide +kernel
theorem w_tables : (allAtoms (Jvm.Cond.code x code maxLocals ret :: tables_1)).before args0 about1 = true := by
  rw [allAtoms_all]
  show words1.all (fun c => c.before args0 about1) = true
  refine all_split ?_ w_codes
  rw [← List.take_append_drop 24 words1, List.all_append, w_t1, w_t2]
  rfl
set_option maxRecDepth 65536 in
theorem w_case : (Jvm.Cond.and given_1 narrow_1).before args0 about1 = true := by decide +kernel
theorem w_applies : (headSpec (Jvm.Cond.code x code maxLocals ret :: tables_1) room_1).applies x e0.platform about1 = true :=
  (Spec.applies_iff w_frames).mpr ⟨w_running, w_runnable, w_alone, w_named, w_hears, w_ripe, w_room, w_tables⟩
theorem atStart : AtStart classFile x code maxLocals ret World_1 tables_1 room_1 Calls_1 rest_1 Pre_1 launch0 p0 e0 about1 theMethod args0 below0 :=
  ⟨lists_1, trivial, launch0.admits_env _ _ _, launch0.least_env, fairChoices_fair.cas, fairChoices_fair.clock, w_frames, w_args, w_heap, w_applies, trivial, trivial, w_case⟩
end start1
theorem witness_1 : WitnessClaimed_1 := ⟨start1.p0, start1.e0, start1.about1, start1.theMethod, start1.args0, start1.below0, start1.atStart⟩
end Jvm.Pilot.@@N@@
