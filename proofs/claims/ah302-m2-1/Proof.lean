import JvmDerived
import JvmDerived.Pilot.@@N@@Statement
import JvmDerived.Pilot.@@N@@Code
set_option linter.unusedVariables false
set_option linter.unusedSimpArgs false
namespace Jvm.RoadKit
open Sem ClassFile Op Lib Jvm.Stand Jvm.Free Jvm.LawKit
section OwnKit
variable {p : Program} {l : Launch} {e : Env} {R : Room} {s : State} {m : MethodId} {args : Array Value} {below : List Frame} {meth : Method} {c : Code} {T : State} {locs : List Loc} {cells slots : Nat} {Z : State} {a0 : Array Value} {h h' : Heap} {a b : Addr}
variable {C N : Nat} {Q : Option Value → Heap → List Loc → Prop} {pc : Nat} {Ls : Array Slot} {rest : List Value}
/-- from the state A the invocation returns, with what Q says of the value, the heap and the places written -/
def own_Fin (p : Program) (e : Env) (below : List Frame) (s : State) (C N : Nat) (Q : Option Value → Heap → List Loc → Prop) (A : State) : Prop :=
  ∃ s₂ o, Steps p.tables e below A s₂ ∧ s₂.status = .running ∧ Ended s₂ below o ∧ ∃ v L, o = .returned v ∧ Q v s₂.heap L ∧ FrameEnd s o s₂ L C N
theorem own_of {A B : State} (st : ∀ t, Steps p.tables e below B t → Steps p.tables e below A t) (k : own_Fin p e below s C N Q B) : own_Fin p e below s C N Q A := by
  obtain ⟨s₂, o, h1, h2⟩ := k
  exact ⟨s₂, o, st _ h1, h2⟩
theorem own_mono {Q' : Option Value → Heap → List Loc → Prop} {A : State} (hq : ∀ v h L, Q v h L → Q' v h L) (k : own_Fin p e below s C N Q A) : own_Fin p e below s C N Q' A := by
  obtain ⟨s₂, o, h1, h2, h3, v, L, h4, h5, h6⟩ := k
  exact ⟨s₂, o, h1, h2, h3, v, L, h4, hq _ _ _ h5, h6⟩
/-- a body's contract: called with as' over the heap h0 it returns, and Q holds -/
def own_Met (l : Launch) (Z : State) (y : MethodName) (bytes : ByteArray) (maxL : Nat) (ret : Option FieldType) (rm : Room) (as' : Array Value) (h0 : Heap) (Q : Option Value → Heap → List Loc → Prop) : Prop :=
  ∀ ws : List Cond, MetFree l y (head1 (Cond.code y bytes maxL ret :: ws) rm) (fun a U => a = as' ∧ Z.Warmed39 U.vm ∧ U.heap = h0) (fun _ _ _ _ _ => True) (fun _ U o U' => ∃ v L, o = .returned v ∧ Q v U'.heap L ∧ FrameEnd U o U' L rm.cells rm.slots)
theorem own_met {y : MethodName} {bytes : ByteArray} {maxL : Nat} {ret : Option FieldType} {rm : Room} {as' : Array Value} {h0 : Heap} (hpl : plainFor y = true)
    (body : ∀ (p : Program) (e : Env) (s : State) (m : MethodId) (below : List Frame) (meth : Method) (c : Code) (T : State), Stand p l e rm s m as' below meth c T [] 0 0 → p.tables.exec = Jvm.exec → c.code = bytes → c.maxLocals = maxL → s.vm.findClass y.cls = some m.cls → Z.Warmed39 s.vm → T.heap = h0 → meth.sig.returnType = ret → meth.locks = false → meth.name = y.name →
      own_Fin p e below s rm.cells rm.slots Q (T.setTop (entryFrame m as' maxL))) : own_Met l Z y bytes maxL ret rm as' h0 Q := by
  intro ws
  refine MetFree.of_bodySF hpl hisR ?_
  intro p e s m args below meth c s₁ Bd hml0 hP hK
  obtain ⟨rfl, hZ, hh⟩ := hP
  have X0 : Stand p l e rm s m _ below meth c s₁ [] 0 0 := Stand.of_body Bd
  exact body p e s m below meth c s₁ X0 Bd.exec Bd.bytes hml0 (findClass_of_methodNamed Bd.named) hZ (by rw [← hh, Bd.state]; rfl) Bd.returns Bd.notSynchronized (name_of_methodNamed Bd.named Bd.method).1
/-! returns -/
theorem own_retI (X : Stand p l e R s m args below meth c T locs cells slots) (hx : p.tables.exec = Jvm.exec) (hlk : meth.locks = false) (eT : T.heap = h) {z : Int32} (hret : meth.sig.returnType = some .int) (hd : decode c.code pc = .ok (.ireturn, 1)) (hC : cells ≤ C) (hN : slots ≤ N) (hQ : Q (some (.int z)) h locs) :
    own_Fin p e below s C N Q (T.setTop (mkF m pc Ls (.int z :: rest))) := by
  obtain ⟨fs, hr, hrun, hended, hW, hsame⟩ := X.leave (v := some (.int z)) (fun h => by rw [hret] at h; cases h) hlk
  exact ⟨_, _, retOut X hx hret rfl (Or.inl ⟨rfl, Or.inl rfl, _, rfl⟩) hd hr, hrun, hended, _, _, rfl, (by show Q _ T.heap _; rw [eT]; exact hQ), ⟨_, rfl⟩, hW, hsame.mono hC hN⟩
theorem own_retN (X : Stand p l e R s m args below meth c T locs cells slots) (hx : p.tables.exec = Jvm.exec) (hlk : meth.locks = false) (eT : T.heap = h) {z z' : Int32} {t : FieldType} (hret : meth.sig.returnType = some t) (ht : t = .boolean ∨ t = .byte ∨ t = .char ∨ t = .short) (hd : decode c.code pc = .ok (.ireturn, 1)) (hC : cells ≤ C) (hN : slots ≤ N) (hz : nar t z = z') (hQ : Q (some (.int z')) h locs) :
    own_Fin p e below s C N Q (T.setTop (mkF m pc Ls (.int z :: rest))) := by
  subst hz
  obtain ⟨fs, hr, hrun, hended, hW, hsame⟩ := X.leave (v := some (.int (nar t z))) (fun h => by rw [hret] at h; cases h) hlk
  exact ⟨_, _, retN X hx hret ht hd hr, hrun, hended, _, _, rfl, (by show Q _ T.heap _; rw [eT]; exact hQ), ⟨_, rfl⟩, hW, hsame.mono hC hN⟩
theorem own_retJ (X : Stand p l e R s m args below meth c T locs cells slots) (hx : p.tables.exec = Jvm.exec) (hlk : meth.locks = false) (eT : T.heap = h) {z : Int64} (hret : meth.sig.returnType = some .long) (hd : decode c.code pc = .ok (.lreturn, 1)) (hC : cells ≤ C) (hN : slots ≤ N) (hQ : Q (some (.long z)) h locs) :
    own_Fin p e below s C N Q (T.setTop (mkF m pc Ls (.long z :: rest))) := by
  obtain ⟨fs, hr, hrun, hended, hW, hsame⟩ := X.leave (v := some (.long z)) (fun h => by rw [hret] at h; cases h) hlk
  exact ⟨_, _, retOut X hx hret rfl (Or.inr (Or.inl ⟨rfl, rfl, _, rfl⟩)) hd hr, hrun, hended, _, _, rfl, (by show Q _ T.heap _; rw [eT]; exact hQ), ⟨_, rfl⟩, hW, hsame.mono hC hN⟩
theorem own_retA (X : Stand p l e R s m args below meth c T locs cells slots) (hx : p.tables.exec = Jvm.exec) (hlk : meth.locks = false) (eT : T.heap = h) {t : FieldType} (ht : t.isReference = true) (hret : meth.sig.returnType = some t) (hn : narrow t (.ref a) = .ref a) (hd : decode c.code pc = .ok (.areturn, 1)) (hC : cells ≤ C) (hN : slots ≤ N) (hQ : Q (some (.ref a)) h locs) :
    own_Fin p e below s C N Q (T.setTop (mkF m pc Ls (.ref a :: rest))) := by
  obtain ⟨fs, hr, hrun, hended, hW, hsame⟩ := X.leave (v := some (.ref a)) (fun h => by rw [hret] at h; cases h) hlk
  exact ⟨_, _, retOut X hx hret hn (Or.inr (Or.inr (Or.inr (Or.inr ⟨rfl, ht, rfl⟩)))) hd hr, hrun, hended, _, _, rfl, (by show Q _ T.heap _; rw [eT]; exact hQ), ⟨_, rfl⟩, hW, hsame.mono hC hN⟩
theorem own_retV (X : Stand p l e R s m args below meth c T locs cells slots) (hx : p.tables.exec = Jvm.exec) (hlk : meth.locks = false) (eT : T.heap = h) (hret : meth.sig.returnType = none) (hd : decode c.code pc = .ok (.return_, 1)) (hC : cells ≤ C) (hN : slots ≤ N) (hQ : Q none h locs) :
    own_Fin p e below s C N Q (T.setTop (mkF m pc Ls [])) := by
  obtain ⟨fs, hr, hrun, hended, hW, hsame⟩ := X.leave (v := none) (fun _ => rfl) hlk
  exact ⟨_, _, X.returnOut hx hret hd hr, hrun, hended, _, _, rfl, (by show Q _ T.heap _; rw [eT]; exact hQ), ⟨_, rfl⟩, hW, hsame.mono hC hN⟩
/-! calls -/
theorem own_callS (X : Stand p l e R s m args below meth c T locs cells slots) (hx : p.tables.exec = Jvm.exec) (hZ : Z.Warmed39 s.vm) {own : String} {index : Nat} {y : MethodName} {bytes : ByteArray} {maxL : Nat} {ret : Option FieldType} {rm : Room} {W : Nat} {argsL : List Value} {Qc : Option Value → Heap → List Loc → Prop}
    (hown : s.vm.findClass own = some m.cls) (wl : (Cond.methodLink own index y).before a0 Z = true) (wst : (Cond.static y).before a0 Z = true) (wi : (Cond.initialized y.cls).before a0 Z = true) (wc : (Cond.code y bytes maxL ret).before a0 Z = true) (hy : y.cls ≠ "java/lang/invoke/MethodHandle" ∧ y.cls ≠ "java/lang/invoke/VarHandle")
    (eT : T.heap = h) (hM : own_Met l Z y bytes maxL ret rm argsL.toArray h Qc) (hfr : rm.frames + 1 ≤ R.frames) (hlo : W + (maxL + 11) + rm.locals ≤ R.locals) (hce : cells + rm.cells ≤ R.cells) (hsl : slots + rm.slots ≤ R.slots)
    (hsize : Ls.size = c.maxLocals) {ps : List FieldType} {r : Option FieldType} (hpd : parseMethodDescriptor y.desc = some ⟨ps, r⟩) (hlen : argsL.length = ps.length) {St : List Value} (hs : St = argsL.reverse ++ rest) (hW : (rest.map fun v => v.category).sum ≤ W) (hd : decode c.code pc = .ok (.invokestatic index, 3))
    (k : ∀ v T' h' L, Stand p l e R s m args below meth c T' (locs ++ L) (cells + rm.cells) (slots + rm.slots) → T'.heap = h' → Qc v h' L → own_Fin p e below s C N Q (T'.setTop (mkF m (pc + 3) Ls (v.toList ++ rest)))) :
    own_Fin p e below s C N Q (T.setTop (mkF m pc Ls St)) := by
  subst hs
  obtain ⟨v, _, ⟨T', L', k', n'⟩, -, X', ⟨Lc, hQ, l1, y1, z1⟩, st⟩ := Jvm.LawKit.callS X hx (y := y) hown (mvT hZ wl) (mvT hZ wst) (mvT hZ wi) (mvT hZ wc) hy (backOf (W := W) (hM []) hZ wc wi hfr hlo) (g := mkF m pc Ls (argsL.reverse ++ rest)) rfl hsize (argsL := argsL) (rest := rest) (lenOf hpd hlen) rfl (by show 2 * 0 + _ ≤ _; simpa using hW) hd (fun _ _ => ⟨rfl, eT, hce, hsl⟩)
  dsimp only [Pt.U, Pt.locs, Pt.cells, Pt.slots] at X' l1 y1 z1 st hQ
  subst l1 y1 z1
  exact own_of st (k _ _ _ _ X' rfl hQ)
def own_Pure (r : Value) (h : Heap) : Option Value → Heap → List Loc → Prop := fun v h' L => v = some r ∧ h' = h ∧ L = []
theorem own_callP (X : Stand p l e R s m args below meth c T locs cells slots) (hx : p.tables.exec = Jvm.exec) (hZ : Z.Warmed39 s.vm) {own : String} {index : Nat} {y : MethodName} {bytes : ByteArray} {maxL : Nat} {ret : Option FieldType} {fr lo : Nat} {W : Nat} {argsL : List Value} {rv : Value}
    (hown : s.vm.findClass own = some m.cls) (wl : (Cond.methodLink own index y).before a0 Z = true) (wst : (Cond.static y).before a0 Z = true) (wi : (Cond.initialized y.cls).before a0 Z = true) (wc : (Cond.code y bytes maxL ret).before a0 Z = true) (hy : y.cls ≠ "java/lang/invoke/MethodHandle" ∧ y.cls ≠ "java/lang/invoke/VarHandle")
    (eT : T.heap = h) (hM : own_Met l Z y bytes maxL ret { frames := fr, cells := 0, slots := 0, locals := lo } argsL.toArray h (own_Pure rv h)) (hfr : fr + 1 ≤ R.frames) (hlo : W + (maxL + 11) + lo ≤ R.locals) (hce : cells ≤ R.cells) (hsl : slots ≤ R.slots)
    (hsize : Ls.size = c.maxLocals) {ps : List FieldType} {r : Option FieldType} (hpd : parseMethodDescriptor y.desc = some ⟨ps, r⟩) (hlen : argsL.length = ps.length) {St : List Value} (hs : St = argsL.reverse ++ rest) (hW : (rest.map fun v => v.category).sum ≤ W) (hd : decode c.code pc = .ok (.invokestatic index, 3))
    (k : ∀ T', Stand p l e R s m args below meth c T' locs cells slots → T'.heap = h → own_Fin p e below s C N Q (T'.setTop (mkF m (pc + 3) Ls (rv :: rest)))) :
    own_Fin p e below s C N Q (T.setTop (mkF m pc Ls St)) := by
  refine own_callS X hx hZ hown wl wst wi wc hy eT hM hfr hlo hce hsl hsize hpd hlen hs hW hd ?_
  rintro v T' h' L X' e' ⟨rfl, rfl, rfl⟩
  rw [List.append_nil] at X'
  exact k T' X' e'
theorem own_callV (X : Stand p l e R s m args below meth c T locs cells slots) (hx : p.tables.exec = Jvm.exec) (hZ : Z.Warmed39 s.vm) {own K : String} {index : Nat} {y z : MethodName} {bytes : ByteArray} {maxL : Nat} {ret : Option FieldType} {rm : Room} {W : Nat} {argsL : List Value} {Qc : Option Value → Heap → List Loc → Prop}
    (hown : s.vm.findClass own = some m.cls) (wl : (Cond.methodLink own index y).before a0 Z = true) (wd : (Cond.declares y).before a0 Z = true) (hnf : NotFace s y) (wse : (Cond.selects K y z).before a0 Z = true) (win : (Cond.instanceMethod z).before a0 Z = true) (wi : (Cond.initialized z.cls).before a0 Z = true) (wc : (Cond.code z bytes maxL ret).before a0 Z = true) (hy : y.cls ≠ "java/lang/invoke/MethodHandle" ∧ y.cls ≠ "java/lang/invoke/VarHandle")
    (eT : T.heap = h) (E : Exa Z h b K) (hM : own_Met l Z z bytes maxL ret rm (.ref b :: argsL).toArray h Qc) (hfr : rm.frames + 1 ≤ R.frames) (hlo : W + (maxL + 11) + rm.locals ≤ R.locals) (hce : cells + rm.cells ≤ R.cells) (hsl : slots + rm.slots ≤ R.slots)
    (hsize : Ls.size = c.maxLocals) {ps : List FieldType} {r : Option FieldType} (hpd : parseMethodDescriptor y.desc = some ⟨ps, r⟩) (hlen : argsL.length = ps.length) {St : List Value} (hs : St = argsL.reverse ++ .ref b :: rest) (hW : (rest.map fun v => v.category).sum ≤ W) (hd : decode c.code pc = .ok (.invokevirtual index, 3))
    (k : ∀ v T' h' L, Stand p l e R s m args below meth c T' (locs ++ L) (cells + rm.cells) (slots + rm.slots) → T'.heap = h' → Qc v h' L → own_Fin p e below s C N Q (T'.setTop (mkF m (pc + 3) Ls (v.toList ++ rest)))) :
    own_Fin p e below s C N Q (T.setTop (mkF m pc Ls St)) := by
  subst hs
  obtain ⟨cq, kq, qa, qb, qc⟩ := isOf hZ eT E
  obtain ⟨v, _, ⟨T', L', k', n'⟩, -, X', ⟨Lc, hQ, l1, y1, z1⟩, st⟩ := X.virtualBack hx (y := y) (z := z) hown (mvT hZ wl) (mvT hZ wd) hnf (mvT hZ wse) (mvT hZ win) hy (backOf (W := W) (hM []) hZ wc wi hfr hlo) qa qc (g := mkF m pc Ls (argsL.reverse ++ .ref b :: rest)) rfl hsize (Steps.refl _) (argsL := argsL) (rest := rest) (lenOf hpd hlen) rfl (by show 2 * 0 + _ ≤ _; simpa using hW) hd (fun _ _ => ⟨rfl, eT, hce, hsl⟩)
  dsimp only [Pt.U, Pt.locs, Pt.cells, Pt.slots] at X' l1 y1 z1 st hQ
  subst l1 y1 z1
  exact own_of (fun t k => st.trans k) (k _ _ _ _ X' rfl hQ)
theorem own_callC (X : Stand p l e R s m args below meth c T locs cells slots) (hx : p.tables.exec = Jvm.exec) (hZ : Z.Warmed39 s.vm) {own : String} {index : Nat} {y : MethodName} {bytes : ByteArray} {maxL : Nat} {rm : Room} {W : Nat} {argsL : List Value} {Qc : Option Value → Heap → List Loc → Prop} (hn : y.name = "<init>")
    (hown : s.vm.findClass own = some m.cls) (wl : (Cond.methodLink own index y).before a0 Z = true) (win : (Cond.instanceMethod y).before a0 Z = true) (wi : (Cond.initialized y.cls).before a0 Z = true) (wc : (Cond.code y bytes maxL none).before a0 Z = true) (hy : y.cls ≠ "java/lang/invoke/MethodHandle" ∧ y.cls ≠ "java/lang/invoke/VarHandle")
    (eT : T.heap = h) (hM : own_Met l Z y bytes maxL none rm (.ref b :: argsL).toArray h Qc) (hfr : rm.frames + 1 ≤ R.frames) (hlo : W + (maxL + 11) + rm.locals ≤ R.locals) (hce : cells + rm.cells ≤ R.cells) (hsl : slots + rm.slots ≤ R.slots)
    (hsize : Ls.size = c.maxLocals) {ps : List FieldType} {r : Option FieldType} (hpd : parseMethodDescriptor y.desc = some ⟨ps, r⟩) (hlen : argsL.length = ps.length) {St : List Value} (hs : St = argsL.reverse ++ .ref b :: rest) (hW : (rest.map fun v => v.category).sum ≤ W) (hd : decode c.code pc = .ok (.invokespecial index, 3))
    (k : ∀ v T' h' L, Stand p l e R s m args below meth c T' (locs ++ L) (cells + rm.cells) (slots + rm.slots) → T'.heap = h' → Qc v h' L → own_Fin p e below s C N Q (T'.setTop (mkF m (pc + 3) Ls (v.toList ++ rest)))) :
    own_Fin p e below s C N Q (T.setTop (mkF m pc Ls St)) := by
  subst hs
  obtain ⟨v, _, ⟨T', L', k', n'⟩, -, X', ⟨Lc, hQ, l1, y1, z1⟩, st⟩ := X.specialBack hx (y := y) hn hown (mvT hZ wl) (mvT hZ win) (mvT hZ wc) hy (backOf (W := W) (hM []) hZ wc wi hfr hlo) (g := mkF m pc Ls (argsL.reverse ++ .ref b :: rest)) rfl hsize (Steps.refl _) (a := b) (argsL := argsL) (rest := rest) (lenOf hpd hlen) rfl (by show 2 * 0 + _ ≤ _; simpa using hW) hd (fun _ _ => ⟨rfl, eT, hce, hsl⟩)
  dsimp only [Pt.U, Pt.locs, Pt.cells, Pt.slots] at X' l1 y1 z1 st hQ
  subst l1 y1 z1
  exact own_of (fun t k => st.trans k) (k _ _ _ _ X' rfl hQ)
/-! arrays: n places, the j-th holds f j -/
def own_Arf (Z : State) (h : Heap) (a : Addr) (ty : FieldType) (n : Nat) (f : Nat → Value) : Prop := ∃ cl : Cell, Arr Z h a cl ty ∧ cl.slots.size = n ∧ ∀ j, j < n → cl.slots[j]? = some (f j)
section Ar
variable {ty : FieldType} {n : Nat} {f g : Nat → Value} {sl : Nat} {v : Value} {ws : List Addr}
theorem own_Arf.lt (F : own_Arf Z h a ty n f) : a < h.size := by obtain ⟨cl, A, -⟩ := F; exact A.lt
theorem own_Arf.ext (F : own_Arf Z h a ty n f) (E : Ext h h') : own_Arf Z h' a ty n f := by obtain ⟨cl, A, r⟩ := F; exact ⟨cl, A.ext E, r⟩
theorem own_Arf.other (F : own_Arf Z h b ty n f) (W : Wr h h' a sl v) (q : b ≠ a) : own_Arf Z h' b ty n f := by obtain ⟨cl, A, r⟩ := F; exact ⟨cl, A.other W q, r⟩
theorem own_Arf.keep (F : own_Arf Z h a ty n f) (K : Keep h h' ws) (q : a ∉ ws) : own_Arf Z h' a ty n f := by obtain ⟨cl, A, r⟩ := F; exact ⟨cl, ⟨K.2.1 a cl A.1 q, A.2⟩, r⟩
theorem own_Arf.congr (F : own_Arf Z h a ty n f) (q : ∀ j, j < n → f j = g j) : own_Arf Z h a ty n g := by obtain ⟨cl, A, r, s⟩ := F; exact ⟨cl, A, r, fun j hj => by rw [s j hj, q j hj]⟩
theorem own_Arf.set (F : own_Arf Z h a ty n f) (W : Wr h h' a sl v) : own_Arf Z h' a ty n (fun j => if j = sl then v else f j) := by
  obtain ⟨cl, A, r, q⟩ := F
  refine ⟨_, A.same W, by rw [sz_set]; exact r, fun j hj => ?_⟩
  by_cases u : j = sl
  · subst u; simp [Cell.setSlot, r, hj]
  · show (cl.slots.setIfInBounds sl v)[j]? = some (if j = sl then v else f j)
    rw [if_neg u, Array.getElem?_setIfInBounds_ne (Ne.symm u)]; exact q j hj
theorem own_Arf.new {k : ClassId} {z : Int32} (A : Arr Z h a (newA k ty z) ty) (hz : z.toInt = n) : own_Arf Z h a ty n (fun _ => defaultValue ty) := by
  have e : z.toNatClampNeg = n := by simp only [Int32.toNatClampNeg, hz]; rfl
  refine ⟨_, A, by rw [sz_new]; exact e, fun j hj => ?_⟩
  simp [newA, e, hj]
theorem own_in {j : Int32} {i k : Nat} (hj : j.toInt = i) (hi : i < k) : ¬ (j < 0 ∨ k ≤ j.toNatClampNeg) := by
  simp only [Int32.lt_iff_toInt_lt, Int32.toNatClampNeg, hj, Int32.reduceToInt]; omega
theorem own_nc {j : Int32} {i : Nat} (hj : j.toInt = i) : j.toNatClampNeg = i := by simp only [Int32.toNatClampNeg, hj]; rfl
theorem own_iaload (X : Stand p l e R s m args below meth c T locs cells slots) (hx : p.tables.exec = Jvm.exec) (hZ : Z.Warmed39 s.vm) (eT : T.heap = h) (F : own_Arf Z h a .int n f) {j : Int32} {i : Nat} (hj : j.toInt = i) (hi : i < n) (hv : f i = v) (hd : decode c.code pc = .ok (.iaload, 1))
    (k : own_Fin p e below s C N Q (T.setTop (mkF m (pc + 1) Ls (v :: rest)))) : own_Fin p e below s C N Q (T.setTop (mkF m pc Ls (.int j :: .ref a :: rest))) := by
  obtain ⟨cl, A, r, q⟩ := F
  exact own_of (fun t kk => X.iaload hx (j := j) (v := v) (by rw [eT]; exact A.1) (State.isArrayOf_alike hZ.alike A.2.1) A.2.2 (own_in hj (by rw [r]; exact hi)) (by rw [own_nc hj, q i hi, hv]) (g := mkF m pc Ls (.int j :: .ref a :: rest)) rfl rfl hd t kk) k
theorem own_laload (X : Stand p l e R s m args below meth c T locs cells slots) (hx : p.tables.exec = Jvm.exec) (hZ : Z.Warmed39 s.vm) (eT : T.heap = h) (F : own_Arf Z h a .long n f) {j : Int32} {i : Nat} (hj : j.toInt = i) (hi : i < n) (hv : f i = v) (hd : decode c.code pc = .ok (.laload, 1))
    (k : own_Fin p e below s C N Q (T.setTop (mkF m (pc + 1) Ls (v :: rest)))) : own_Fin p e below s C N Q (T.setTop (mkF m pc Ls (.int j :: .ref a :: rest))) := by
  obtain ⟨cl, A, r, q⟩ := F
  exact own_of (fun t kk => X.laload hx (j := j) (v := v) (by rw [eT]; exact A.1) (State.isArrayOf_alike hZ.alike A.2.1) A.2.2 (own_in hj (by rw [r]; exact hi)) (by rw [own_nc hj, q i hi, hv]) (g := mkF m pc Ls (.int j :: .ref a :: rest)) rfl rfl hd t kk) k
theorem own_caload (X : Stand p l e R s m args below meth c T locs cells slots) (hx : p.tables.exec = Jvm.exec) (hZ : Z.Warmed39 s.vm) (eT : T.heap = h) (F : own_Arf Z h a .char n f) {j : Int32} {i : Nat} (hj : j.toInt = i) (hi : i < n) (hv : f i = v) (hd : decode c.code pc = .ok (.caload, 1))
    (k : own_Fin p e below s C N Q (T.setTop (mkF m (pc + 1) Ls (v :: rest)))) : own_Fin p e below s C N Q (T.setTop (mkF m pc Ls (.int j :: .ref a :: rest))) := by
  obtain ⟨cl, A, r, q⟩ := F
  exact own_of (fun t kk => X.caload hx (j := j) (v := v) (by rw [eT]; exact A.1) (State.isArrayOf_alike hZ.alike A.2.1) A.2.2 (own_in hj (by rw [r]; exact hi)) (by rw [own_nc hj, q i hi, hv]) (g := mkF m pc Ls (.int j :: .ref a :: rest)) rfl rfl hd t kk) k
theorem own_baload (X : Stand p l e R s m args below meth c T locs cells slots) (hx : p.tables.exec = Jvm.exec) (hZ : Z.Warmed39 s.vm) (eT : T.heap = h) (F : own_Arf Z h a .byte n f) {j : Int32} {i : Nat} (hj : j.toInt = i) (hi : i < n) (hv : f i = v) (hd : decode c.code pc = .ok (.baload, 1))
    (k : own_Fin p e below s C N Q (T.setTop (mkF m (pc + 1) Ls (v :: rest)))) : own_Fin p e below s C N Q (T.setTop (mkF m pc Ls (.int j :: .ref a :: rest))) := by
  obtain ⟨cl, A, r, q⟩ := F
  exact own_of (fun t kk => X.baloadBytes hx (j := j) (v := v) (by rw [eT]; exact A.1) (State.isArrayOf_alike hZ.alike A.2.1) A.2.2 (own_in hj (by rw [r]; exact hi)) (by rw [own_nc hj, q i hi, hv]) (g := mkF m pc Ls (.int j :: .ref a :: rest)) rfl rfl hd t kk) k
theorem own_zaload (X : Stand p l e R s m args below meth c T locs cells slots) (hx : p.tables.exec = Jvm.exec) (hZ : Z.Warmed39 s.vm) (eT : T.heap = h) (F : own_Arf Z h a .boolean n f) {j : Int32} {i : Nat} (hj : j.toInt = i) (hi : i < n) (hv : f i = v) (hd : decode c.code pc = .ok (.baload, 1))
    (k : own_Fin p e below s C N Q (T.setTop (mkF m (pc + 1) Ls (v :: rest)))) : own_Fin p e below s C N Q (T.setTop (mkF m pc Ls (.int j :: .ref a :: rest))) := by
  obtain ⟨cl, A, r, q⟩ := F
  exact own_of (fun t kk => X.baloadBooleans hx (j := j) (v := v) (by rw [eT]; exact A.1) (State.isArrayOf_alike hZ.alike A.2.1) A.2.2 (own_in hj (by rw [r]; exact hi)) (by rw [own_nc hj, q i hi, hv]) (g := mkF m pc Ls (.int j :: .ref a :: rest)) rfl rfl hd t kk) k
theorem own_arraylength (X : Stand p l e R s m args below meth c T locs cells slots) (hx : p.tables.exec = Jvm.exec) (hZ : Z.Warmed39 s.vm) (eT : T.heap = h) (F : own_Arf Z h a ty n f) {z : Int32} (hz : z.toInt = n) (hd : decode c.code pc = .ok (.arraylength, 1))
    (k : own_Fin p e below s C N Q (T.setTop (mkF m (pc + 1) Ls (.int z :: rest)))) : own_Fin p e below s C N Q (T.setTop (mkF m pc Ls (.ref a :: rest))) := by
  obtain ⟨cl, A, r, q⟩ := F
  have e1 : cl.slots.size.toInt32 = z := by
    have hlt := Int32.toInt_lt z
    apply Int32.toInt_inj.mp
    rw [r, len_toInt (by omega), hz]
  refine own_of (fun t kk => X.arraylength hx (by rw [eT]; exact A.1) (State.isArrayOf_alike hZ.alike A.2.1) (g := mkF m pc Ls (.ref a :: rest)) rfl rfl hd t kk) ?_
  rw [e1]; exact k
variable {n0 : Nat}
theorem own_st {kd : Value} {i : Nat} {j : Int32} (hj : j.toInt = i) (F : own_Arf Z h a ty n f) (hN : Fr n0 locs) (ge : n0 ≤ a) {A : State} {fr : JFrame}
    (hst : ∃ T' h', Stand p l e R s m args below meth c T' (locs ++ [⟨a, j.toNatClampNeg⟩]) cells slots ∧ T'.heap = h' ∧ Wr h h' a j.toNatClampNeg kd ∧ ∀ target, Steps p.tables e below (T'.setTop fr) target → Steps p.tables e below A target)
    (k : ∀ T' h' locs', Stand p l e R s m args below meth c T' locs' cells slots → Fr n0 locs' → T'.heap = h' → Wr h h' a i kd → own_Arf Z h' a ty n (fun j => if j = i then kd else f j) → own_Fin p e below s C N Q (T'.setTop fr)) :
    own_Fin p e below s C N Q A := by
  obtain ⟨T', h', X', e', W, st⟩ := hst
  have hN' := Fr.snoc X' hN ge
  rw [own_nc hj] at W
  exact own_of st (k T' h' _ X' hN' e' W (F.set W))
theorem own_iastore (X : Stand p l e R s m args below meth c T locs cells slots) (hx : p.tables.exec = Jvm.exec) (hZ : Z.Warmed39 s.vm) (eT : T.heap = h) (F : own_Arf Z h a .int n f) (hN : Fr n0 locs) (ge : n0 ≤ a) {j x : Int32} {i : Nat} (hj : j.toInt = i) (hi : i < n) (hd : decode c.code pc = .ok (.iastore, 1))
    (k : ∀ T' h' locs', Stand p l e R s m args below meth c T' locs' cells slots → Fr n0 locs' → T'.heap = h' → Wr h h' a i (.int x) → own_Arf Z h' a .int n (fun j => if j = i then .int x else f j) → own_Fin p e below s C N Q (T'.setTop (mkF m (pc + 1) Ls rest))) :
    own_Fin p e below s C N Q (T.setTop (mkF m pc Ls (.int x :: .int j :: .ref a :: rest))) := by
  have F' := F
  obtain ⟨cl, A, r, q⟩ := F
  exact own_st hj F' hN ge (stI X hx hZ eT A (j := j) (own_in hj (by rw [r]; exact hi)) (g := mkF m pc Ls (.int x :: .int j :: .ref a :: rest)) rfl rfl hd) k
theorem own_lastore (X : Stand p l e R s m args below meth c T locs cells slots) (hx : p.tables.exec = Jvm.exec) (hZ : Z.Warmed39 s.vm) (eT : T.heap = h) (F : own_Arf Z h a .long n f) (hN : Fr n0 locs) (ge : n0 ≤ a) {j : Int32} {x : Int64} {i : Nat} (hj : j.toInt = i) (hi : i < n) (hd : decode c.code pc = .ok (.lastore, 1))
    (k : ∀ T' h' locs', Stand p l e R s m args below meth c T' locs' cells slots → Fr n0 locs' → T'.heap = h' → Wr h h' a i (.long x) → own_Arf Z h' a .long n (fun j => if j = i then .long x else f j) → own_Fin p e below s C N Q (T'.setTop (mkF m (pc + 1) Ls rest))) :
    own_Fin p e below s C N Q (T.setTop (mkF m pc Ls (.long x :: .int j :: .ref a :: rest))) := by
  have F' := F
  obtain ⟨cl, A, r, q⟩ := F
  exact own_st hj F' hN ge (stJ X hx hZ eT A (j := j) (own_in hj (by rw [r]; exact hi)) (g := mkF m pc Ls (.long x :: .int j :: .ref a :: rest)) rfl rfl hd) k
theorem own_bastore (X : Stand p l e R s m args below meth c T locs cells slots) (hx : p.tables.exec = Jvm.exec) (hZ : Z.Warmed39 s.vm) (eT : T.heap = h) (F : own_Arf Z h a .byte n f) (hN : Fr n0 locs) (ge : n0 ≤ a) {j x : Int32} {i : Nat} (hj : j.toInt = i) (hi : i < n) (hd : decode c.code pc = .ok (.bastore, 1))
    (k : ∀ T' h' locs', Stand p l e R s m args below meth c T' locs' cells slots → Fr n0 locs' → T'.heap = h' → Wr h h' a i (.int x.toInt8.toInt32) → own_Arf Z h' a .byte n (fun j => if j = i then .int x.toInt8.toInt32 else f j) → own_Fin p e below s C N Q (T'.setTop (mkF m (pc + 1) Ls rest))) :
    own_Fin p e below s C N Q (T.setTop (mkF m pc Ls (.int x :: .int j :: .ref a :: rest))) := by
  have F' := F
  obtain ⟨cl, A, r, q⟩ := F
  exact own_st hj F' hN ge (stB X hx hZ eT A (j := j) (own_in hj (by rw [r]; exact hi)) (g := mkF m pc Ls (.int x :: .int j :: .ref a :: rest)) rfl rfl hd) k
theorem own_castore (X : Stand p l e R s m args below meth c T locs cells slots) (hx : p.tables.exec = Jvm.exec) (hZ : Z.Warmed39 s.vm) (eT : T.heap = h) (F : own_Arf Z h a .char n f) (hN : Fr n0 locs) (ge : n0 ≤ a) {j x : Int32} {i : Nat} (hj : j.toInt = i) (hi : i < n) (hd : decode c.code pc = .ok (.castore, 1))
    (k : ∀ T' h' locs', Stand p l e R s m args below meth c T' locs' cells slots → Fr n0 locs' → T'.heap = h' → Wr h h' a i (.int x.toUInt32.toUInt16.toUInt32.toInt32) → own_Arf Z h' a .char n (fun j => if j = i then .int x.toUInt32.toUInt16.toUInt32.toInt32 else f j) → own_Fin p e below s C N Q (T'.setTop (mkF m (pc + 1) Ls rest))) :
    own_Fin p e below s C N Q (T.setTop (mkF m pc Ls (.int x :: .int j :: .ref a :: rest))) := by
  have F' := F
  obtain ⟨cl, A, r, q⟩ := F
  exact own_st hj F' hN ge (stC X hx hZ eT A (j := j) (own_in hj (by rw [r]; exact hi)) (g := mkF m pc Ls (.int x :: .int j :: .ref a :: rest)) rfl rfl hd) k
theorem own_zastore (X : Stand p l e R s m args below meth c T locs cells slots) (hx : p.tables.exec = Jvm.exec) (hZ : Z.Warmed39 s.vm) (eT : T.heap = h) (F : own_Arf Z h a .boolean n f) (hN : Fr n0 locs) (ge : n0 ≤ a) {j x : Int32} {i : Nat} (hj : j.toInt = i) (hi : i < n) (hd : decode c.code pc = .ok (.bastore, 1))
    (k : ∀ T' h' locs', Stand p l e R s m args below meth c T' locs' cells slots → Fr n0 locs' → T'.heap = h' → Wr h h' a i (.int (x &&& 1)) → own_Arf Z h' a .boolean n (fun j => if j = i then .int (x &&& 1) else f j) → own_Fin p e below s C N Q (T'.setTop (mkF m (pc + 1) Ls rest))) :
    own_Fin p e below s C N Q (T.setTop (mkF m pc Ls (.int x :: .int j :: .ref a :: rest))) := by
  have F' := F
  obtain ⟨cl, A, r, q⟩ := F
  exact own_st hj F' hN ge (stZ X hx hZ eT A (j := j) (own_in hj (by rw [r]; exact hi)) (g := mkF m pc Ls (.int x :: .int j :: .ref a :: rest)) rfl rfl hd) k
theorem own_newP (X : Stand p l e R s m args below meth c T locs cells slots) (hx : p.tables.exec = Jvm.exec) (hZ : Z.Warmed39 s.vm) {aty : ArrayType} (w : (Cond.arrayClass (newarray.typeOf aty)).before a0 Z = true) (eT : T.heap = h) (hd : decode c.code pc = .ok (.newarray aty, 2)) {z : Int32} (hz : z.toInt = n) {cap : Nat} (hcap : n ≤ cap) (hb : cap * 8 ≤ 536870912) (hc : cells + 1 ≤ R.cells) (hl : slots + cap ≤ R.slots)
    (k : ∀ T' h' b, Stand p l e R s m args below meth c T' locs (cells + 1) (slots + cap) → T'.heap = h' → Ext h h' → b = h.size → own_Arf Z h' b (newarray.typeOf aty) n (fun _ => defaultValue (newarray.typeOf aty)) → own_Fin p e below s C N Q (T'.setTop (mkF m (pc + 2) Ls (.ref b :: rest)))) :
    own_Fin p e below s C N Q (T.setTop (mkF m pc Ls (.int z :: rest))) := by
  obtain ⟨T', h', cA, X', e', E, A, st⟩ := newP X hx hZ w eT (g := mkF m pc Ls (.int z :: rest)) rfl hd rfl (by rw [Int32.lt_iff_toInt_lt, hz]; show ¬ (n : Int) < 0; omega) (cap := cap) (by rw [own_nc hz]; exact hcap) hb hc hl
  exact own_of st (k T' h' _ X' e' E rfl (own_Arf.new A hz))
end Ar
/-! objects -/
section Ob
variable {n0 : Nat} {v : Value}
theorem own_getF (X : Stand p l e R s m args below meth c T locs cells slots) (hx : p.tables.exec = Jvm.exec) (hZ : Z.Warmed39 s.vm) {own O n d : String} {index : Nat} (hown : s.vm.findClass own = some m.cls) (w : (Cond.fieldLink own index O n d).before a0 Z = true) (eT : T.heap = h) (F : Fld Z h a O n d v) (hd : decode c.code pc = .ok (.getfield index, 3))
    (k : ∀ T', Stand p l e R s m args below meth c T' locs cells slots → T'.heap = h → own_Fin p e below s C N Q (T'.setTop (mkF m (pc + 3) Ls (v :: rest)))) :
    own_Fin p e below s C N Q (T.setTop (mkF m pc Ls (.ref a :: rest))) := by
  obtain ⟨T', X', e', st⟩ := getF X hx hZ hown (host := "") (Or.inl w) Via.refl eT F (g := mkF m pc Ls (.ref a :: rest)) rfl rfl hd
  exact own_of st (k T' X' e')
theorem own_putF (X : Stand p l e R s m args below meth c T locs cells slots) (hx : p.tables.exec = Jvm.exec) (hZ : Z.Warmed39 s.vm) {own O n d K : String} {index kk : Nat} {ty : FieldType} {old : Value} (hown : s.vm.findClass own = some m.cls) (w : (Cond.fieldLink own index O n d).before a0 Z = true) (eT : T.heap = h) (F : Fld Z h a O n d old) (E : Exa Z h a K)
    (L : (Cond.lays K O n d).before a0 Z = true ∨ ((Cond.laysFinal K O n d).before a0 Z = true ∧ own = O ∧ meth.name = "<init>")) (wi : (Cond.instantiable K kk).before a0 Z = true) (hty : parseFieldDescriptor d = some ty) (hn : narrow ty v = v) (hf : fits ty v = true) (hN : Fr n0 locs) (ge : n0 ≤ a) (hd : decode c.code pc = .ok (.putfield index, 3))
    (k : ∀ T' h' locs', Stand p l e R s m args below meth c T' locs' cells slots → Fr n0 locs' → T'.heap = h' → Wr h h' a (slotOf Z O n d) v → own_Fin p e below s C N Q (T'.setTop (mkF m (pc + 3) Ls rest))) :
    own_Fin p e below s C N Q (T.setTop (mkF m pc Ls (v :: .ref a :: rest))) := by
  obtain ⟨T', h', X', e', W, st⟩ := putF X hx hZ hown (host := "") (Or.inl w) Via.refl eT F E L wi hty hn hf (g := mkF m pc Ls (v :: .ref a :: rest)) rfl rfl hd
  exact own_of st (k T' h' _ X' (Fr.snoc X' hN ge) e' W)
theorem own_newO (X : Stand p l e R s m args below meth c T locs cells slots) (hx : p.tables.exec = Jvm.exec) (hZ : Z.Warmed39 s.vm) {own K : String} {index n : Nat} (hown : s.vm.findClass own = some m.cls) (w : (Cond.classLink own index K).before a0 Z = true) (wi : (Cond.instantiable K n).before a0 Z = true) (wz : (Cond.initialized K).before a0 Z = true) (eT : T.heap = h) (hd : decode c.code pc = .ok (.new index, 3)) (hc : cells + 1 ≤ R.cells) (hl : slots + n ≤ R.slots)
    (k : ∀ T' h' b, Stand p l e R s m args below meth c T' locs (cells + 1) (slots + n) → T'.heap = h' → Ext h h' → b = h.size → Exa Z h' b K → (∀ {O nm d : String} {ty : FieldType}, Laid Z a0 K O nm d → parseFieldDescriptor d = some ty → Fld Z h' b O nm d (defaultValue ty)) → own_Fin p e below s C N Q (T'.setTop (mkF m (pc + 3) Ls (.ref b :: rest)))) :
    own_Fin p e below s C N Q (T.setTop (mkF m pc Ls rest)) := by
  obtain ⟨T', h', X', e', E, A, D, -, st⟩ := newO X hx hZ hown w wi wz eT (g := mkF m pc Ls rest) rfl hd hc hl
  exact own_of st (k T' h' _ X' e' E rfl A D)
theorem own_initO (X : Stand p l e R s m args below meth c T locs cells slots) (hx : p.tables.exec = Jvm.exec) (hZ : Z.Warmed39 s.vm) {own : String} {idx : Nat} (hown : s.vm.findClass own = some m.cls) (w1 : (Cond.methodLink own idx Lib.objectInit).before a0 Z = true) (w2 : (Cond.instanceMethod Lib.objectInit).before a0 Z = true) (w3 : (Cond.code Lib.objectInit ⟨#[0xb1]⟩ 1 none).before a0 Z = true) (eT : T.heap = h) (hsize : Ls.size = c.maxLocals) (hd : decode c.code pc = .ok (.invokespecial idx, 3)) (hf : 1 ≤ R.frames) {W : Nat} (hW : (rest.map fun v => v.category).sum ≤ W) (hl : W + 12 ≤ R.locals)
    (k : ∀ T', Stand p l e R s m args below meth c T' locs cells slots → T'.heap = h → own_Fin p e below s C N Q (T'.setTop (mkF m (pc + 3) Ls rest))) :
    own_Fin p e below s C N Q (T.setTop (mkF m pc Ls (.ref a :: rest))) := by
  obtain ⟨T', X', e', st⟩ := initO X hx hZ hown w1 w2 w3 eT (g := mkF m pc Ls (.ref a :: rest)) rfl hsize rfl hd hf (W := W) (by show 2 * 0 + _ ≤ _; simpa using hW) hl
  exact own_of st (k T' X' e')
theorem own_wide (X : Stand p l e R s m args below meth c T locs cells slots) {cells' slots' : Nat} (h1 : cells ≤ cells') (h2 : slots ≤ slots') : Stand p l e R s m args below meth c T locs cells' slots' := { X with same := X.same.mono h1 h2 }
end Ob
theorem own_lremM {g : JFrame} {target : State} (X : Stand p l e R s m args below meth c T locs cells slots) (hx : p.tables.exec = Jvm.exec) (hg : g.method = m) {x y : Int64} (hd : decode c.code g.pc = .ok (.lrem, 1)) (hs : g.stack = .long y :: .long x :: rest) (hy : y ≠ 0)
    (hr : Steps p.tables e below (T.setTop { g with pc := g.pc + 1, stack := .long (x % y) :: rest }) target) : Steps p.tables e below (T.setTop g) target := by
  refine XS.lrem X.here hx hg hd hs hy ?_
  rw [lrem_mod]; exact hr
end OwnKit
def own_iushr (x y : Int32) : Int32 := (x.toUInt32 >>> (y &&& 31).toUInt32).toInt32
def own_ishl (x y : Int32) : Int32 := x <<< (y &&& 31)
def own_ishr (x y : Int32) : Int32 := x >>> (y &&& 31)
def own_lushr (x : Int64) (y : Int32) : Int64 := (x.toUInt64 >>> (y &&& 0x3f).toInt64.toUInt64).toInt64
def own_lshl (x : Int64) (y : Int32) : Int64 := x <<< (y &&& 0x3f).toInt64
def own_lshr (x : Int64) (y : Int32) : Int64 := x >>> (y &&& 0x3f).toInt64
def own_i2b (x : Int32) : Int32 := x.toInt8.toInt32
def own_i2c (x : Int32) : Int32 := x.toUInt32.toUInt16.toUInt32.toInt32
def own_i2s (x : Int32) : Int32 := x.toInt16.toInt32
end Jvm.RoadKit
namespace Jvm.Pilot.@@N@@
open Jvm Jvm.ClassFile Sem Op Lib Jvm.Free Jvm.Stand Jvm.LawKit Jvm.RoadKit Bundle Jvm.Pilot.@@N@@.Jvm.D
theorem d1_0 : decode prog_61_method_1_code 0 = .ok (.aload_n 0, 1) := by decide +kernel
theorem d1_1 : decode prog_61_method_1_code 1 = .ok (.invokespecial 1, 3) := by decide +kernel
theorem d1_4 : decode prog_61_method_1_code 4 = .ok (.aload_n 0, 1) := by decide +kernel
theorem d1_5 : decode prog_61_method_1_code 5 = .ok (.aload_n 1, 1) := by decide +kernel
theorem d1_6 : decode prog_61_method_1_code 6 = .ok (.iload_n 2, 1) := by decide +kernel
theorem d1_7 : decode prog_61_method_1_code 7 = .ok (.invokevirtual 7, 3) := by decide +kernel
theorem d1_10 : decode prog_61_method_1_code 10 = .ok (.return_, 1) := by decide +kernel
theorem d3_0 : decode prog_61_method_2_code 0 = .ok (.aload_n 0, 1) := by decide +kernel
theorem d3_1 : decode prog_61_method_2_code 1 = .ok (.aload_n 1, 1) := by decide +kernel
theorem d3_2 : decode prog_61_method_2_code 2 = .ok (.putfield 13, 3) := by decide +kernel
theorem d3_5 : decode prog_61_method_2_code 5 = .ok (.aload_n 0, 1) := by decide +kernel
theorem d3_6 : decode prog_61_method_2_code 6 = .ok (.iload_n 2, 1) := by decide +kernel
theorem d3_7 : decode prog_61_method_2_code 7 = .ok (.putfield 17, 3) := by decide +kernel
theorem d3_10 : decode prog_61_method_2_code 10 = .ok (.return_, 1) := by decide +kernel
theorem d4_0 : decode prog_61_method_4_code 0 = .ok (.iload_n 1, 1) := by decide +kernel
theorem d4_1 : decode prog_61_method_4_code 1 = .ok (.aload_n 0, 1) := by decide +kernel
theorem d4_2 : decode prog_61_method_4_code 2 = .ok (.getfield 17, 3) := by decide +kernel
theorem d4_5 : decode prog_61_method_4_code 5 = .ok (.invokestatic 21, 3) := by decide +kernel
theorem d4_8 : decode prog_61_method_4_code 8 = .ok (.pop, 1) := by decide +kernel
theorem d4_9 : decode prog_61_method_4_code 9 = .ok (.aload_n 0, 1) := by decide +kernel
theorem d4_10 : decode prog_61_method_4_code 10 = .ok (.getfield 13, 3) := by decide +kernel
theorem d4_13 : decode prog_61_method_4_code 13 = .ok (.iload_n 1, 1) := by decide +kernel
theorem d4_14 : decode prog_61_method_4_code 14 = .ok (.baload, 1) := by decide +kernel
theorem d4_15 : decode prog_61_method_4_code 15 = .ok (.sipush 255, 3) := by decide +kernel
theorem d4_18 : decode prog_61_method_4_code 18 = .ok (.iand, 1) := by decide +kernel
theorem d4_19 : decode prog_61_method_4_code 19 = .ok (.ireturn, 1) := by decide +kernel
theorem d5_0 : decode jdk_31_method_17_code 0 = .ok (.iload_n 0, 1) := by decide +kernel
theorem d5_1 : decode jdk_31_method_17_code 1 = .ok (.iload_n 1, 1) := by decide +kernel
theorem d5_2 : decode jdk_31_method_17_code 2 = .ok (.aconst_null, 1) := by decide +kernel
theorem d5_3 : decode jdk_31_method_17_code 3 = .ok (.invokestatic 105, 3) := by decide +kernel
theorem d5_6 : decode jdk_31_method_17_code 6 = .ok (.ireturn, 1) := by decide +kernel
theorem d6_0 : decode jdk_41_method_11_code 0 = .ok (.iload_n 0, 1) := by decide +kernel
theorem d6_1 : decode jdk_41_method_11_code 1 = .ok (.ifCond .lt 8, 3) := by decide +kernel
theorem d6_4 : decode jdk_41_method_11_code 4 = .ok (.iload_n 0, 1) := by decide +kernel
theorem d6_5 : decode jdk_41_method_11_code 5 = .ok (.iload_n 1, 1) := by decide +kernel
theorem d6_6 : decode jdk_41_method_11_code 6 = .ok (.if_icmp .lt 10, 3) := by decide +kernel
theorem d6_9 : decode jdk_41_method_11_code 9 = .ok (.aload_n 2, 1) := by decide +kernel
theorem d6_10 : decode jdk_41_method_11_code 10 = .ok (.iload_n 0, 1) := by decide +kernel
theorem d6_11 : decode jdk_41_method_11_code 11 = .ok (.iload_n 1, 1) := by decide +kernel
theorem d6_12 : decode jdk_41_method_11_code 12 = .ok (.invokestatic 95, 3) := by decide +kernel
theorem d6_15 : decode jdk_41_method_11_code 15 = .ok (.athrow, 1) := by decide +kernel
theorem d6_16 : decode jdk_41_method_11_code 16 = .ok (.iload_n 0, 1) := by decide +kernel
theorem d6_17 : decode jdk_41_method_11_code 17 = .ok (.ireturn, 1) := by decide +kernel
theorem d7_0 : decode method_2_code 0 = .ok (.iload_n 0, 1) := by decide +kernel
theorem d7_1 : decode method_2_code 1 = .ok (.sipush 256, 3) := by decide +kernel
theorem d7_4 : decode method_2_code 4 = .ok (.irem, 1) := by decide +kernel
theorem d7_5 : decode method_2_code 5 = .ok (.istore_n 1, 1) := by decide +kernel
theorem d7_6 : decode method_2_code 6 = .ok (.iload_n 1, 1) := by decide +kernel
theorem d7_7 : decode method_2_code 7 = .ok (.ifCond .ge 9, 3) := by decide +kernel
theorem d7_10 : decode method_2_code 10 = .ok (.iload_n 1, 1) := by decide +kernel
theorem d7_11 : decode method_2_code 11 = .ok (.sipush 256, 3) := by decide +kernel
theorem d7_14 : decode method_2_code 14 = .ok (.iadd, 1) := by decide +kernel
theorem d7_15 : decode method_2_code 15 = .ok (.istore_n 1, 1) := by decide +kernel
theorem d7_16 : decode method_2_code 16 = .ok (.iload_n 1, 1) := by decide +kernel
theorem d7_17 : decode method_2_code 17 = .ok (.ireturn, 1) := by decide +kernel
theorem pd_1 : parseMethodDescriptor "(I)I" = some ⟨[.int], some .int⟩ := by decide +kernel
theorem pd_2 : parseMethodDescriptor "(II)I" = some ⟨[.int, .int], some .int⟩ := by decide +kernel
theorem pd_3 : parseMethodDescriptor "(IIIIII)Z" = some ⟨[.int, .int, .int, .int, .int, .int], some .boolean⟩ := by decide +kernel
theorem pd_4 : parseMethodDescriptor "(IILjava/util/function/BiFunction;)I" = some ⟨[.int, .int, (.object "java/util/function/BiFunction")], some .int⟩ := by decide +kernel
theorem pd_5 : parseMethodDescriptor "([BI)V" = some ⟨[(.array .byte), .int], none⟩ := by decide +kernel
theorem pn_0 : plainFor x = true := plainFor_of_name (by first | (simp [plainName, overriddenIn]; done) | decide +kernel)
theorem ef_0 (m : MethodId) (x0 : Int32) (x1 : Int32) (x2 : Int32) (x3 : Int32) (x4 : Int32) (x5 : Int32) : entryFrame m #[(.int x0), (.int x1), (.int x2), (.int x3), (.int x4), (.int x5)] maxLocals = mkF m 0 #[.val (.int x0), .val (.int x1), .val (.int x2), .val (.int x3), .val (.int x4), .val (.int x5), .unset, .unset, .unset, .unset, .unset, .unset, .unset] [] := by first | (simp [entryFrame, mkF, argsToLocals, Value.category, maxLocals]; done) | rfl
theorem pn_1 : plainFor (⟨"com/example/needle_in_text/needleintext/text/ByteText", "<init>", "([BI)V"⟩ : MethodName) = true := plainFor_of_name (by first | (simp [plainName, overriddenIn]; done) | decide +kernel)
theorem ef_1 (m : MethodId) (x0 : Addr) (x1 : Addr) (x2 : Int32) : entryFrame m #[(.ref x0), (.ref x1), (.int x2)] 3 = mkF m 0 #[.val (.ref x0), .val (.ref x1), .val (.int x2)] [] := by first | (simp [entryFrame, mkF, argsToLocals, Value.category]; done) | rfl
theorem pn_3 : plainFor (⟨"com/example/needle_in_text/needleintext/text/ByteText", "view", "([BI)V"⟩ : MethodName) = true := plainFor_of_name (by first | (simp [plainName, overriddenIn]; done) | decide +kernel)
theorem ef_3 (m : MethodId) (x0 : Addr) (x1 : Addr) (x2 : Int32) : entryFrame m #[(.ref x0), (.ref x1), (.int x2)] 3 = mkF m 0 #[.val (.ref x0), .val (.ref x1), .val (.int x2)] [] := by first | (simp [entryFrame, mkF, argsToLocals, Value.category]; done) | rfl
theorem pn_4 : plainFor (⟨"com/example/needle_in_text/needleintext/text/ByteText", "symbolAt", "(I)I"⟩ : MethodName) = true := plainFor_of_name (by first | (simp [plainName, overriddenIn]; done) | decide +kernel)
theorem ef_4 (m : MethodId) (x0 : Addr) (x1 : Int32) : entryFrame m #[(.ref x0), (.int x1)] 2 = mkF m 0 #[.val (.ref x0), .val (.int x1)] [] := by first | (simp [entryFrame, mkF, argsToLocals, Value.category]; done) | rfl
theorem pn_5 : plainFor (⟨"java/util/Objects", "checkIndex", "(II)I"⟩ : MethodName) = true := plainFor_of_name (by first | (simp [plainName, overriddenIn]; done) | decide +kernel)
theorem ef_5 (m : MethodId) (x0 : Int32) (x1 : Int32) : entryFrame m #[(.int x0), (.int x1)] 2 = mkF m 0 #[.val (.int x0), .val (.int x1)] [] := by first | (simp [entryFrame, mkF, argsToLocals, Value.category]; done) | rfl
theorem pn_6 : plainFor (⟨"jdk/internal/util/Preconditions", "checkIndex", "(IILjava/util/function/BiFunction;)I"⟩ : MethodName) = true := plainFor_of_name (by first | (simp [plainName, overriddenIn]; done) | decide +kernel)
theorem ef_6 (m : MethodId) (x0 : Int32) (x1 : Int32) : entryFrame m #[(.int x0), (.int x1), .null] 3 = mkF m 0 #[.val (.int x0), .val (.int x1), .val .null] [] := by first | (simp [entryFrame, mkF, argsToLocals, Value.category]; done) | rfl
theorem pn_7 : plainFor (⟨"com/example/needle_in_text/needleintext/text/ByteTextSymbolAtPinLaw", "unsignedOf", "(I)I"⟩ : MethodName) = true := plainFor_of_name (by first | (simp [plainName, overriddenIn]; done) | decide +kernel)
theorem ef_7 (m : MethodId) (x0 : Int32) : entryFrame m #[(.int x0)] 2 = mkF m 0 #[.val (.int x0), .unset] [] := by first | (simp [entryFrame, mkF, argsToLocals, Value.category]; done) | rfl
theorem own_all8 {P : Int8 → Prop} (h : ∀ n : Fin 256, P (.ofBitVec (.ofFin n))) (b : Int8) : P b := by
  have := h b.toBitVec.toFin
  simpa using this
theorem own_fin (x : Int32) (K : Nat) (h0 : 0 ≤ x.toInt) (h1 : x.toInt < K) : ∃ n : Nat, n < K ∧ x = Int32.ofInt (n : Int) :=
  ⟨x.toInt.toNat, by omega, by rw [Int.toNat_of_nonneg h0, Int32.ofInt_toInt]⟩
theorem own_lushr_nat (x : Int64) (q : Int32) (k : Nat) (hk : q.toBitVec.toNat % 64 = k) : (own_lushr x q).toBitVec.toNat = x.toBitVec.toNat / 2 ^ k := by
  show (x.toBitVec >>> ((q &&& 0x3f).toInt64.toBitVec % 64)).toNat = _
  rw [BitVec.ushiftRight_eq', BitVec.toNat_ushiftRight, Nat.shiftRight_eq_div_pow, BitVec.toNat_umod, (sm64 q k hk).1, BitVec.toNat_ofNat]
  congr 2
  have := (sm64 q k hk).2
  show k % 2 ^ 64 % 64 = k
  omega
theorem own_l0 (x : Int64) : x = 0 ↔ x.toBitVec.toNat = 0 := ⟨fun h => by subst h; rfl, fun h => Int64.toBitVec_inj.mp (BitVec.eq_of_toNat_eq h)⟩
theorem own_shsh (x : Int64) (a b c : Int32) (i j : Nat) (ha : a.toBitVec.toNat % 64 = i) (hb : b.toBitVec.toNat % 64 = j) (hc : c.toBitVec.toNat % 64 = i + j) : own_lushr (own_lushr x a) b = own_lushr x c := by
  apply Int64.toBitVec_inj.mp
  apply BitVec.eq_of_toNat_eq
  rw [own_lushr_nat _ b j hb, own_lushr_nat x a i ha, own_lushr_nat x c _ hc, Nat.div_div_eq_div_mul, Nat.pow_add]
theorem own_shz (x : Int64) (a b : Int32) (i j : Nat) (ha : a.toBitVec.toNat % 64 = i) (hb : b.toBitVec.toNat % 64 = j) (h : 64 ≤ i + j) : own_lushr (own_lushr x a) b = 0 := by
  rw [own_l0, own_lushr_nat _ b j hb, own_lushr_nat x a i ha, Nat.div_div_eq_div_mul, ← Nat.pow_add]
  exact Nat.div_eq_of_lt (Nat.lt_of_lt_of_le x.toBitVec.isLt (Nat.pow_le_pow_right (by decide) h))
theorem own_true {P : Prop} [Decidable P] (h : P) : ((if P then (1 : Int32) else (0 : Int32)) &&& 1) = 1 := by rw [if_pos h]; rfl
def own_Txt (Z : State) (h : Heap) (n0 : Nat) (o b : Addr) (len : Int32) (n : Nat) (f : Nat → Int32) : Prop :=
  Exa Z h o "com/example/needle_in_text/needleintext/text/ByteText" ∧ Fld Z h o "com/example/needle_in_text/needleintext/text/ByteText" "bytes" "[B" (.ref b) ∧ Fld Z h o "com/example/needle_in_text/needleintext/text/ByteText" "length" "I" (.int len) ∧ own_Arf Z h b .byte n (fun j => .int (f j)) ∧ o ≠ b ∧ n0 ≤ o ∧ n0 ≤ b
set_option maxRecDepth 65536 in
set_option maxHeartbeats 40000000 in
theorem met3 (l : Launch) (Z : State) (a0 : Array Value) (hw : ∀ d ∈ tables_1, d.before a0 Z = true) (x0 : Addr) (x1 : Addr) (x2 : Int32) (n : Nat) (f : Nat → Int32) (ub : Value) (ul : Value) (h0 : Heap) (n0 : Nat) (Z0 : n0 ≤ h0.size) (E : Exa Z h0 x0 "com/example/needle_in_text/needleintext/text/ByteText") (Fb : Fld Z h0 x0 "com/example/needle_in_text/needleintext/text/ByteText" "bytes" "[B" ub) (Fl : Fld Z h0 x0 "com/example/needle_in_text/needleintext/text/ByteText" "length" "I" ul) (A : own_Arf Z h0 x1 .byte n (fun j => .int (f j))) (ne : x0 ≠ x1) (go : n0 ≤ x0) (gb : n0 ≤ x1) :
    own_Met l Z (⟨"com/example/needle_in_text/needleintext/text/ByteText", "view", "([BI)V"⟩ : MethodName) prog_61_method_2_code 3 none { frames := 0, cells := 0, slots := 0, locals := 0 } #[(.ref x0), (.ref x1), (.int x2)] h0 (fun v h L => v = none ∧ Fr n0 L ∧ n0 ≤ h.size ∧ own_Txt Z h n0 x0 x1 x2 n f ∧ Keep h0 h [x0]) := by
  refine own_met pn_3 ?_
  intro p e s m below meth c T0 X0 hx hby hml hown hZ e0 hret hlk hnm
  rw [ef_3 m x0 x1 x2]
  have N0 := Fr.nil n0
  show own_Fin _ _ _ _ _ _ _ (T0.setTop (mkF m 0 #[.val (.ref x0), .val (.ref x1), .val (.int x2)] []))
  refine own_of (fun _ kk => XS.aloadN X0.here hx rfl (hb hby d3_0) rfl rfl kk) ?_
  show own_Fin _ _ _ _ _ _ _ (T0.setTop (mkF m 1 #[.val (.ref x0), .val (.ref x1), .val (.int x2)] [(.ref x0)]))
  refine own_of (fun _ kk => XS.aloadN X0.here hx rfl (hb hby d3_1) rfl rfl kk) ?_
  show own_Fin _ _ _ _ _ _ _ (T0.setTop (mkF m 2 #[.val (.ref x0), .val (.ref x1), .val (.int x2)] [(.ref x1), (.ref x0)]))
  refine own_putF X0 hx hZ hown (hw _ (List.mem_of_getElem? (i := 16) rfl)) e0 Fb E (Or.inl (hw _ (List.mem_of_getElem? (i := 17) rfl))) (hw _ (List.mem_of_getElem? (i := 3) rfl)) (ty := (.array .byte)) (by decide) rfl rfl N0 go (hb hby d3_2) ?_
  intro T1 h1 l1 X1 N1 e1 W1
  have ZW1 : n0 ≤ h1.size := by rw [Wr.size W1]; exact Z0
  replace E := E.wr W1
  replace Fb := Fb.same W1
  replace Fl := Fl.other W1 (Or.inr (slot_ne (Or.inl (hw _ (List.mem_of_getElem? (i := 19) rfl))) (Or.inl (hw _ (List.mem_of_getElem? (i := 17) rfl))) (by decide) (t := .int) (t' := (.array .byte)) (by decide) (by decide)))
  replace A := A.other W1 (Ne.symm ne)
  show own_Fin _ _ _ _ _ _ _ (T1.setTop (mkF m 5 #[.val (.ref x0), .val (.ref x1), .val (.int x2)] []))
  refine own_of (fun _ kk => XS.aloadN X1.here hx rfl (hb hby d3_5) rfl rfl kk) ?_
  show own_Fin _ _ _ _ _ _ _ (T1.setTop (mkF m 6 #[.val (.ref x0), .val (.ref x1), .val (.int x2)] [(.ref x0)]))
  refine own_of (fun _ kk => XS.iloadN X1.here hx rfl (hb hby d3_6) rfl kk) ?_
  show own_Fin _ _ _ _ _ _ _ (T1.setTop (mkF m 7 #[.val (.ref x0), .val (.ref x1), .val (.int x2)] [(.int x2), (.ref x0)]))
  refine own_putF X1 hx hZ hown (hw _ (List.mem_of_getElem? (i := 18) rfl)) e1 Fl E (Or.inl (hw _ (List.mem_of_getElem? (i := 19) rfl))) (hw _ (List.mem_of_getElem? (i := 3) rfl)) (ty := .int) (by decide) rfl rfl N1 go (hb hby d3_7) ?_
  intro T2 h2 l2 X2 N2 e2 W2
  have ZW2 : n0 ≤ h2.size := by rw [Wr.size W2]; exact ZW1
  replace E := E.wr W2
  replace Fb := Fb.other W2 (Or.inr (slot_ne (Or.inl (hw _ (List.mem_of_getElem? (i := 17) rfl))) (Or.inl (hw _ (List.mem_of_getElem? (i := 19) rfl))) (by decide) (t := (.array .byte)) (t' := .int) (by decide) (by decide)))
  replace Fl := Fl.same W2
  replace A := A.other W2 (Ne.symm ne)
  show own_Fin _ _ _ _ _ _ _ (T2.setTop (mkF m 10 #[.val (.ref x0), .val (.ref x1), .val (.int x2)] []))
  exact own_retV X2 hx hlk e2 hret (hb hby d3_10) (by decide) (by decide) ⟨rfl, N2, ZW2, ⟨E, Fb, Fl, A, ne, go, gb⟩, (Keep.of_wr W1).trans (Keep.of_wr W2) (fun x hx => Or.inl hx)⟩
set_option maxRecDepth 65536 in
set_option maxHeartbeats 40000000 in
theorem met1 (l : Launch) (Z : State) (a0 : Array Value) (hw : ∀ d ∈ tables_1, d.before a0 Z = true) (x0 : Addr) (x1 : Addr) (x2 : Int32) (n : Nat) (f : Nat → Int32) (h0 : Heap) (n0 : Nat) (Z0 : n0 ≤ h0.size) (E : Exa Z h0 x0 "com/example/needle_in_text/needleintext/text/ByteText") (Fb : Fld Z h0 x0 "com/example/needle_in_text/needleintext/text/ByteText" "bytes" "[B" .null) (Fl : Fld Z h0 x0 "com/example/needle_in_text/needleintext/text/ByteText" "length" "I" (.int (0 : Int32))) (A : own_Arf Z h0 x1 .byte n (fun j => .int (f j))) (ne : x0 ≠ x1) (go : n0 ≤ x0) (gb : n0 ≤ x1) :
    own_Met l Z (⟨"com/example/needle_in_text/needleintext/text/ByteText", "<init>", "([BI)V"⟩ : MethodName) prog_61_method_1_code 3 none { frames := 1, cells := 0, slots := 0, locals := 14 } #[(.ref x0), (.ref x1), (.int x2)] h0 (fun v h L => v = none ∧ Fr n0 L ∧ n0 ≤ h.size ∧ own_Txt Z h n0 x0 x1 x2 n f ∧ Keep h0 h [x0]) := by
  refine own_met pn_1 ?_
  intro p e s m below meth c T0 X0 hx hby hml hown hZ e0 hret hlk hnm
  rw [ef_1 m x0 x1 x2]
  have N0 := Fr.nil n0
  show own_Fin _ _ _ _ _ _ _ (T0.setTop (mkF m 0 #[.val (.ref x0), .val (.ref x1), .val (.int x2)] []))
  refine own_of (fun _ kk => XS.aloadN X0.here hx rfl (hb hby d1_0) rfl rfl kk) ?_
  show own_Fin _ _ _ _ _ _ _ (T0.setTop (mkF m 1 #[.val (.ref x0), .val (.ref x1), .val (.int x2)] [(.ref x0)]))
  refine own_initO X0 hx hZ hown (hw _ (List.mem_of_getElem? (i := 8) rfl)) (hw _ (List.mem_of_getElem? (i := 9) rfl)) (hw _ (List.mem_of_getElem? (i := 10) rfl)) e0 (by rw [hml]; rfl) (hb hby d1_1) (by decide) (W := 0) (Nat.le_of_eq rfl) (by decide) ?_
  intro T1 X1 e1
  show own_Fin _ _ _ _ _ _ _ (T1.setTop (mkF m 4 #[.val (.ref x0), .val (.ref x1), .val (.int x2)] []))
  refine own_of (fun _ kk => XS.aloadN X1.here hx rfl (hb hby d1_4) rfl rfl kk) ?_
  show own_Fin _ _ _ _ _ _ _ (T1.setTop (mkF m 5 #[.val (.ref x0), .val (.ref x1), .val (.int x2)] [(.ref x0)]))
  refine own_of (fun _ kk => XS.aloadN X1.here hx rfl (hb hby d1_5) rfl rfl kk) ?_
  show own_Fin _ _ _ _ _ _ _ (T1.setTop (mkF m 6 #[.val (.ref x0), .val (.ref x1), .val (.int x2)] [(.ref x1), (.ref x0)]))
  refine own_of (fun _ kk => XS.iloadN X1.here hx rfl (hb hby d1_6) rfl kk) ?_
  show own_Fin _ _ _ _ _ _ _ (T1.setTop (mkF m 7 #[.val (.ref x0), .val (.ref x1), .val (.int x2)] [(.int x2), (.ref x1), (.ref x0)]))
  refine own_callV X1 hx hZ (y := (⟨"com/example/needle_in_text/needleintext/text/ByteText", "view", "([BI)V"⟩ : MethodName)) (z := (⟨"com/example/needle_in_text/needleintext/text/ByteText", "view", "([BI)V"⟩ : MethodName)) hown (hw _ (List.mem_of_getElem? (i := 11) rfl)) (hw _ (List.mem_of_getElem? (i := 12) rfl)) (notFace_of_selects (args := #[]) (mvT hZ (hw _ (List.mem_of_getElem? (i := 14) rfl)))) (hw _ (List.mem_of_getElem? (i := 14) rfl)) (hw _ (List.mem_of_getElem? (i := 13) rfl)) (hw _ (List.mem_of_getElem? (i := 4) rfl)) (hw _ (List.mem_of_getElem? (i := 15) rfl)) (by decide) e1 E (argsL := [(.ref x1), (.int x2)]) (met3 l Z a0 hw x0 x1 x2 n f .null (.int (0 : Int32)) h0 n0 Z0 E Fb Fl A ne go gb) (W := 0) (by decide) (by decide) (by decide) (by decide) (by rw [hml]; rfl) pd_5 rfl (rest := []) rfl (Nat.le_of_eq rfl) (hb hby d1_7) ?_
  intro v2 T2 h2 L2 X2 e2 q2
  obtain ⟨rfl, N2q, Z2, O2, K2⟩ := q2
  have N2 := Fr.app N0 N2q
  show own_Fin _ _ _ _ _ _ _ (T2.setTop (mkF m 10 #[.val (.ref x0), .val (.ref x1), .val (.int x2)] []))
  exact own_retV X2 hx hlk e2 hret (hb hby d1_10) (by decide) (by decide) ⟨rfl, N2, Z2, O2, K2⟩
def own_m7_16a (x0 : Int32) : Int32 := (if (x0 % (256 : Int32)) < (0 : Int32) then ((x0 % (256 : Int32)) + (256 : Int32)) else (x0 % (256 : Int32)))
def own_f7 (x0 : Int32) : Int32 := (own_m7_16a x0)
set_option maxRecDepth 65536 in
set_option maxHeartbeats 40000000 in
theorem met7 (l : Launch) (Z : State) (a0 : Array Value) (hw : ∀ d ∈ tables_1, d.before a0 Z = true) (x0 : Int32) (h0 : Heap) :
    own_Met l Z (⟨"com/example/needle_in_text/needleintext/text/ByteTextSymbolAtPinLaw", "unsignedOf", "(I)I"⟩ : MethodName) method_2_code 2 (some .int) { frames := 0, cells := 0, slots := 0, locals := 0 } #[(.int x0)] h0 (own_Pure (.int (own_f7 x0)) h0) := by
  refine own_met pn_7 ?_
  intro p e s m below meth c T0 X0 hx hby hml hown hZ e0 hret hlk hnm
  rw [ef_7 m x0]
  show own_Fin _ _ _ _ _ _ _ (T0.setTop (mkF m 0 #[.val (.int x0), .unset] []))
  refine own_of (fun _ kk => XS.iloadN X0.here hx rfl (hb hby d7_0) rfl kk) ?_
  show own_Fin _ _ _ _ _ _ _ (T0.setTop (mkF m 1 #[.val (.int x0), .unset] [(.int x0)]))
  refine own_of (fun _ kk => XS.sipush X0.here hx rfl (hb hby d7_1) kk) ?_
  show own_Fin _ _ _ _ _ _ _ (T0.setTop (mkF m 4 #[.val (.int x0), .unset] [(.int (256 : Int32)), (.int x0)]))
  refine own_of (fun _ kk => iremM X0 hx rfl (hb hby d7_4) rfl (by decide) kk) ?_
  show own_Fin _ _ _ _ _ _ _ (T0.setTop (mkF m 5 #[.val (.int x0), .unset] [(.int (x0 % (256 : Int32)))]))
  refine own_of (fun _ kk => XS.istoreN X0.here hx rfl (hb hby d7_5) rfl (l' := #[.val (.int x0), .val (.int (x0 % (256 : Int32)))]) rfl kk) ?_
  show own_Fin _ _ _ _ _ _ _ (T0.setTop (mkF m 6 #[.val (.int x0), .val (.int (x0 % (256 : Int32)))] []))
  refine own_of (fun _ kk => XS.iloadN X0.here hx rfl (hb hby d7_6) rfl kk) ?_
  show own_Fin _ _ _ _ _ _ _ (T0.setTop (mkF m 7 #[.val (.int x0), .val (.int (x0 % (256 : Int32)))] [(.int (x0 % (256 : Int32)))]))
  suffices k1 : own_Fin _ _ _ _ _ _ _ (T0.setTop (mkF m 16 #[.val (.int x0), .val (.int (own_m7_16a x0))] [])) by
    by_cases c7 : (x0 % (256 : Int32)) < (0 : Int32)
    · refine own_of (fun _ kk => XS.ifNo X0.here hx rfl (hb hby d7_7) rfl ((if0 _ _).trans (tlt c7).2.1) kk) ?_
      show own_Fin _ _ _ _ _ _ _ (T0.setTop (mkF m 10 #[.val (.int x0), .val (.int (x0 % (256 : Int32)))] []))
      refine own_of (fun _ kk => XS.iloadN X0.here hx rfl (hb hby d7_10) rfl kk) ?_
      show own_Fin _ _ _ _ _ _ _ (T0.setTop (mkF m 11 #[.val (.int x0), .val (.int (x0 % (256 : Int32)))] [(.int (x0 % (256 : Int32)))]))
      refine own_of (fun _ kk => XS.sipush X0.here hx rfl (hb hby d7_11) kk) ?_
      show own_Fin _ _ _ _ _ _ _ (T0.setTop (mkF m 14 #[.val (.int x0), .val (.int (x0 % (256 : Int32)))] [(.int (256 : Int32)), (.int (x0 % (256 : Int32)))]))
      refine own_of (fun _ kk => XS.iadd X0.here hx rfl (hb hby d7_14) rfl kk) ?_
      show own_Fin _ _ _ _ _ _ _ (T0.setTop (mkF m 15 #[.val (.int x0), .val (.int (x0 % (256 : Int32)))] [(.int ((x0 % (256 : Int32)) + (256 : Int32)))]))
      refine own_of (fun _ kk => XS.istoreN X0.here hx rfl (hb hby d7_15) rfl (l' := #[.val (.int x0), .val (.int ((x0 % (256 : Int32)) + (256 : Int32)))]) rfl kk) ?_
      show own_Fin _ _ _ _ _ _ _ (T0.setTop (mkF m 16 #[.val (.int x0), .val (.int ((x0 % (256 : Int32)) + (256 : Int32)))] []))
      simp only [own_m7_16a, if_pos c7] at k1 ⊢
      exact k1
    · refine own_of (fun _ kk => XS.ifYes X0.here hx rfl (pc0 := 7) (pc' := 16) rfl (hb hby d7_7) rfl ((if0 _ _).trans (flt c7).2.1) (by decide) (by decide) kk) ?_
      show own_Fin _ _ _ _ _ _ _ (T0.setTop (mkF m 16 #[.val (.int x0), .val (.int (x0 % (256 : Int32)))] []))
      simp only [own_m7_16a, if_neg c7] at k1 ⊢
      exact k1
  show own_Fin _ _ _ _ _ _ _ (T0.setTop (mkF m 16 #[.val (.int x0), .val (.int (own_m7_16a x0))] []))
  refine own_of (fun _ kk => XS.iloadN X0.here hx rfl (hb hby d7_16) rfl kk) ?_
  show own_Fin _ _ _ _ _ _ _ (T0.setTop (mkF m 17 #[.val (.int x0), .val (.int (own_m7_16a x0))] [(.int (own_m7_16a x0))]))
  exact own_retI X0 hx hlk e0 hret (hb hby d7_17) (by decide) (by decide) ⟨by first | rfl | (simp only [own_f7]; done), rfl, rfl⟩
set_option maxRecDepth 65536 in
set_option maxHeartbeats 40000000 in
theorem met6 (l : Launch) (Z : State) (a0 : Array Value) (hw : ∀ d ∈ tables_1, d.before a0 Z = true) (x0 : Int32) (x1 : Int32) (h0 : Heap) (n0 : Nat) (Z0 : n0 ≤ h0.size) (h1 : ¬ x0 < (0 : Int32)) (h2 : x0 < x1) :
    own_Met l Z (⟨"jdk/internal/util/Preconditions", "checkIndex", "(IILjava/util/function/BiFunction;)I"⟩ : MethodName) jdk_41_method_11_code 3 (some .int) { frames := 0, cells := 0, slots := 0, locals := 0 } #[(.int x0), (.int x1), .null] h0 (fun v h L => own_Pure (.int x0) h0 v h L) := by
  refine own_met pn_6 ?_
  intro p e s m below meth c T0 X0 hx hby hml hown hZ e0 hret hlk hnm
  rw [ef_6 m x0 x1]
  have N0 := Fr.nil n0
  show own_Fin _ _ _ _ _ _ _ (T0.setTop (mkF m 0 #[.val (.int x0), .val (.int x1), .val .null] []))
  refine own_of (fun _ kk => XS.iloadN X0.here hx rfl (hb hby d6_0) rfl kk) ?_
  show own_Fin _ _ _ _ _ _ _ (T0.setTop (mkF m 1 #[.val (.int x0), .val (.int x1), .val .null] [(.int x0)]))
  refine own_of (fun _ kk => XS.ifNo X0.here hx rfl (hb hby d6_1) rfl ((if0 _ _).trans (flt h1).1) kk) ?_
  show own_Fin _ _ _ _ _ _ _ (T0.setTop (mkF m 4 #[.val (.int x0), .val (.int x1), .val .null] []))
  refine own_of (fun _ kk => XS.iloadN X0.here hx rfl (hb hby d6_4) rfl kk) ?_
  show own_Fin _ _ _ _ _ _ _ (T0.setTop (mkF m 5 #[.val (.int x0), .val (.int x1), .val .null] [(.int x0)]))
  refine own_of (fun _ kk => XS.iloadN X0.here hx rfl (hb hby d6_5) rfl kk) ?_
  show own_Fin _ _ _ _ _ _ _ (T0.setTop (mkF m 6 #[.val (.int x0), .val (.int x1), .val .null] [(.int x1), (.int x0)]))
  refine own_of (fun _ kk => XS.icmpYes X0.here hx rfl (pc0 := 6) (pc' := 16) rfl (hb hby d6_6) rfl (tlt h2).1 (by decide) (by decide) kk) ?_
  show own_Fin _ _ _ _ _ _ _ (T0.setTop (mkF m 16 #[.val (.int x0), .val (.int x1), .val .null] []))
  refine own_of (fun _ kk => XS.iloadN X0.here hx rfl (hb hby d6_16) rfl kk) ?_
  show own_Fin _ _ _ _ _ _ _ (T0.setTop (mkF m 17 #[.val (.int x0), .val (.int x1), .val .null] [(.int x0)]))
  exact own_retI X0 hx hlk e0 hret (hb hby d6_17) (by decide) (by decide) ⟨rfl, rfl, rfl⟩
set_option maxRecDepth 65536 in
set_option maxHeartbeats 40000000 in
theorem met5 (l : Launch) (Z : State) (a0 : Array Value) (hw : ∀ d ∈ tables_1, d.before a0 Z = true) (x0 : Int32) (x1 : Int32) (h0 : Heap) (n0 : Nat) (Z0 : n0 ≤ h0.size) (h1 : ¬ x0 < (0 : Int32)) (h2 : x0 < x1) :
    own_Met l Z (⟨"java/util/Objects", "checkIndex", "(II)I"⟩ : MethodName) jdk_31_method_17_code 2 (some .int) { frames := 1, cells := 0, slots := 0, locals := 14 } #[(.int x0), (.int x1)] h0 (fun v h L => own_Pure (.int x0) h0 v h L) := by
  refine own_met pn_5 ?_
  intro p e s m below meth c T0 X0 hx hby hml hown hZ e0 hret hlk hnm
  rw [ef_5 m x0 x1]
  have N0 := Fr.nil n0
  show own_Fin _ _ _ _ _ _ _ (T0.setTop (mkF m 0 #[.val (.int x0), .val (.int x1)] []))
  refine own_of (fun _ kk => XS.iloadN X0.here hx rfl (hb hby d5_0) rfl kk) ?_
  show own_Fin _ _ _ _ _ _ _ (T0.setTop (mkF m 1 #[.val (.int x0), .val (.int x1)] [(.int x0)]))
  refine own_of (fun _ kk => XS.iloadN X0.here hx rfl (hb hby d5_1) rfl kk) ?_
  show own_Fin _ _ _ _ _ _ _ (T0.setTop (mkF m 2 #[.val (.int x0), .val (.int x1)] [(.int x1), (.int x0)]))
  refine own_of (fun _ kk => XS.aconstNull X0.here hx rfl (hb hby d5_2) kk) ?_
  show own_Fin _ _ _ _ _ _ _ (T0.setTop (mkF m 3 #[.val (.int x0), .val (.int x1)] [.null, (.int x1), (.int x0)]))
  refine own_callS X0 hx hZ hown (hw _ (List.mem_of_getElem? (i := 29) rfl)) (hw _ (List.mem_of_getElem? (i := 30) rfl)) (hw _ (List.mem_of_getElem? (i := 31) rfl)) (hw _ (List.mem_of_getElem? (i := 32) rfl)) (by decide) e0 (argsL := [(.int x0), (.int x1), .null]) (met6 l Z a0 hw x0 x1 h0 n0 Z0 h1 h2) (W := 0) (by decide) (by decide) (by decide) (by decide) (by rw [hml]; rfl) pd_4 rfl (rest := []) rfl (Nat.le_of_eq rfl) (hb hby d5_3) ?_
  intro v1 T1 h1 L1 X1 e1 q1
  obtain ⟨rfl, qh1, rfl⟩ := q1
  rw [qh1] at e1
  have N1 := Fr.app N0 (Fr.nil n0)
  show own_Fin _ _ _ _ _ _ _ (T1.setTop (mkF m 6 #[.val (.int x0), .val (.int x1)] [(.int x0)]))
  exact own_retI X1 hx hlk e1 hret (hb hby d5_6) (by decide) (by decide) ⟨rfl, rfl, rfl⟩
set_option maxRecDepth 65536 in
set_option maxHeartbeats 40000000 in
theorem met4 (l : Launch) (Z : State) (a0 : Array Value) (hw : ∀ d ∈ tables_1, d.before a0 Z = true) (x0 : Addr) (x1 : Int32) (b : Addr) (len : Int32) (n : Nat) (f : Nat → Int32) (i : Nat) (r : Int32) (h0 : Heap) (n0 : Nat) (Z0 : n0 ≤ h0.size) (O : own_Txt Z h0 n0 x0 b len n f) (h1 : ¬ x1 < (0 : Int32)) (h2 : x1 < len) (hj : x1.toInt = i) (hi : i < n) (hv : f i = r) :
    own_Met l Z (⟨"com/example/needle_in_text/needleintext/text/ByteText", "symbolAt", "(I)I"⟩ : MethodName) prog_61_method_4_code 2 (some .int) { frames := 2, cells := 0, slots := 0, locals := 27 } #[(.ref x0), (.int x1)] h0 (fun v h L => own_Pure (.int (r &&& 255)) h0 v h L) := by
  refine own_met pn_4 ?_
  intro p e s m below meth c T0 X0 hx hby hml hown hZ e0 hret hlk hnm
  rw [ef_4 m x0 x1]
  have N0 := Fr.nil n0
  obtain ⟨E, Fb, Fl, A, ne, go, gb⟩ := O
  show own_Fin _ _ _ _ _ _ _ (T0.setTop (mkF m 0 #[.val (.ref x0), .val (.int x1)] []))
  refine own_of (fun _ kk => XS.iloadN X0.here hx rfl (hb hby d4_0) rfl kk) ?_
  show own_Fin _ _ _ _ _ _ _ (T0.setTop (mkF m 1 #[.val (.ref x0), .val (.int x1)] [(.int x1)]))
  refine own_of (fun _ kk => XS.aloadN X0.here hx rfl (hb hby d4_1) rfl rfl kk) ?_
  show own_Fin _ _ _ _ _ _ _ (T0.setTop (mkF m 2 #[.val (.ref x0), .val (.int x1)] [(.ref x0), (.int x1)]))
  refine own_getF X0 hx hZ hown (hw _ (List.mem_of_getElem? (i := 18) rfl)) e0 Fl (hb hby d4_2) ?_
  intro T1 X1 e1
  show own_Fin _ _ _ _ _ _ _ (T1.setTop (mkF m 5 #[.val (.ref x0), .val (.int x1)] [(.int len), (.int x1)]))
  refine own_callS X1 hx hZ hown (hw _ (List.mem_of_getElem? (i := 25) rfl)) (hw _ (List.mem_of_getElem? (i := 26) rfl)) (hw _ (List.mem_of_getElem? (i := 27) rfl)) (hw _ (List.mem_of_getElem? (i := 28) rfl)) (by decide) e1 (argsL := [(.int x1), (.int len)]) (met5 l Z a0 hw x1 len h0 n0 Z0 h1 h2) (W := 0) (by decide) (by decide) (by decide) (by decide) (by rw [hml]; rfl) pd_2 rfl (rest := []) rfl (Nat.le_of_eq rfl) (hb hby d4_5) ?_
  intro v2 T2 h2 L2 X2 e2 q2
  obtain ⟨rfl, qh2, rfl⟩ := q2
  rw [qh2] at e2
  have N2 := Fr.app N0 (Fr.nil n0)
  show own_Fin _ _ _ _ _ _ _ (T2.setTop (mkF m 8 #[.val (.ref x0), .val (.int x1)] [(.int x1)]))
  refine own_of (fun _ kk => XS.pop X2.here hx rfl (hb hby d4_8) rfl rfl kk) ?_
  show own_Fin _ _ _ _ _ _ _ (T2.setTop (mkF m 9 #[.val (.ref x0), .val (.int x1)] []))
  refine own_of (fun _ kk => XS.aloadN X2.here hx rfl (hb hby d4_9) rfl rfl kk) ?_
  show own_Fin _ _ _ _ _ _ _ (T2.setTop (mkF m 10 #[.val (.ref x0), .val (.int x1)] [(.ref x0)]))
  refine own_getF X2 hx hZ hown (hw _ (List.mem_of_getElem? (i := 16) rfl)) e2 Fb (hb hby d4_10) ?_
  intro T3 X3 e3
  show own_Fin _ _ _ _ _ _ _ (T3.setTop (mkF m 13 #[.val (.ref x0), .val (.int x1)] [(.ref b)]))
  refine own_of (fun _ kk => XS.iloadN X3.here hx rfl (hb hby d4_13) rfl kk) ?_
  show own_Fin _ _ _ _ _ _ _ (T3.setTop (mkF m 14 #[.val (.ref x0), .val (.int x1)] [(.int x1), (.ref b)]))
  refine own_baload X3 hx hZ e3 A (i := i) hj hi (v := (.int r)) (by rw [hv]) (hb hby d4_14) ?_
  show own_Fin _ _ _ _ _ _ _ (T3.setTop (mkF m 15 #[.val (.ref x0), .val (.int x1)] [(.int r)]))
  refine own_of (fun _ kk => XS.sipush X3.here hx rfl (hb hby d4_15) kk) ?_
  show own_Fin _ _ _ _ _ _ _ (T3.setTop (mkF m 18 #[.val (.ref x0), .val (.int x1)] [(.int (255 : Int32)), (.int r)]))
  refine own_of (fun _ kk => XS.iand X3.here hx rfl (hb hby d4_18) rfl kk) ?_
  show own_Fin _ _ _ _ _ _ _ (T3.setTop (mkF m 19 #[.val (.ref x0), .val (.int x1)] [(.int (r &&& (255 : Int32)))]))
  exact own_retI X3 hx hlk e3 hret (hb hby d4_19) (by decide) (by decide) ⟨rfl, rfl, rfl⟩
def own_ln (x4 : Int32) : Int32 := (x4 &&& (3 : Int32)) + (1 : Int32)
def own_ix (x4 x5 : Int32) : Int32 := (x5 &&& (2147483647 : Int32)) % (own_ln x4)
def own_pick (k a b c d : Int32) : Int32 := if k = (0 : Int32) then a else (if k = (1 : Int32) then b else (if k = (2 : Int32) then c else d))
theorem own_lr (x4 : Int32) : 1 ≤ (own_ln x4).toInt ∧ (own_ln x4).toInt ≤ 4 := by
  have h := c_mask x4 3 2 (by decide) (by decide)
  have h3 := c_iadd (x4 &&& 3) 1
  have h4 := rng32 ((x4 &&& 3) + 1)
  have k1 : (1 : Int32).toInt = 1 := by decide
  show 1 ≤ ((x4 &&& 3) + 1).toInt ∧ ((x4 &&& 3) + 1).toInt ≤ 4
  omega
theorem own_nz (x4 : Int32) : ((x4 &&& (3 : Int32)) + (1 : Int32)) ≠ 0 := fun e => by
  have h := own_lr x4
  have e' : own_ln x4 = 0 := e
  rw [e'] at h
  have k0 : (0 : Int32).toInt = 0 := by decide
  omega
theorem own_ir (x4 x5 : Int32) : 0 ≤ (own_ix x4 x5).toInt ∧ (own_ix x4 x5).toInt < (own_ln x4).toInt := by
  have h := own_lr x4
  have h1 := c_mask x5 2147483647 31 (by decide) (by decide)
  have h2 := (c_iremV (x5 &&& 2147483647) (own_ln x4)).1 (by rw [h1]; omega) (by omega)
  exact ⟨h2.1, h2.2.1⟩
theorem own_h1 (x4 x5 : Int32) : ¬ own_ix x4 x5 < (0 : Int32) := by
  have h := own_ir x4 x5
  have k0 : (0 : Int32).toInt = 0 := by decide
  rw [Int32.lt_iff_toInt_lt]; omega
theorem own_h2 (x4 x5 : Int32) : own_ix x4 x5 < own_ln x4 := by rw [Int32.lt_iff_toInt_lt]; exact (own_ir x4 x5).2
theorem own_hv (k a b c d : Int32) (h0 : 0 ≤ k.toInt) (h1 : k.toInt < 4) : (fun j => if j = 3 then (own_i2b (own_i2b d)) else (if j = 2 then (own_i2b (own_i2b c)) else (if j = 1 then (own_i2b (own_i2b b)) else (if j = 0 then (own_i2b (own_i2b a)) else (0 : Int32))))) k.toInt.toNat = own_i2b (own_i2b (own_pick k a b c d)) := by
  obtain ⟨n, hn, rfl⟩ := own_fin k 4 h0 h1
  obtain rfl | rfl | rfl | rfl : n = 0 ∨ n = 1 ∨ n = 2 ∨ n = 3 := by omega
  all_goals rfl
theorem own_f (p : Int32) : (own_i2b (own_i2b p) &&& 255) = own_f7 p := by
  have h1 := c_mask (own_i2b (own_i2b p)) 255 8 (by decide) (by decide)
  have h2 := (c_i2b (own_i2b p)).1
  have h3 := (c_i2b p).1
  change ((own_i2b (own_i2b p)).toInt - (own_i2b p).toInt) % 256 = 0 at h2
  change ((own_i2b p).toInt - p.toInt) % 256 = 0 at h3
  have h4 := c_irem p 256 256 (by decide)
  have h5 := c_iadd (p % 256) 256
  have h6 := rng32 (p % 256 + 256)
  have k0 : (0 : Int32).toInt = 0 := by decide
  have k1 : (256 : Int32).toInt = 256 := by decide
  apply Int32.toInt_inj.mp
  rw [h1]
  unfold own_f7 own_m7_16a
  simp only [Int32.lt_iff_toInt_lt, k0]
  split <;> omega
theorem own_got (r : Int32) : ¬ (r &&& 255) < (0 : Int32) ∧ (r &&& 255) < (256 : Int32) := by
  have h1 := c_mask r 255 8 (by decide) (by decide)
  have k0 : (0 : Int32).toInt = 0 := by decide
  have k1 : (256 : Int32).toInt = 256 := by decide
  rw [Int32.lt_iff_toInt_lt, Int32.lt_iff_toInt_lt, h1, k0, k1]; omega
def own_m0_107a (x5 : Int32) (x4 : Int32) (x0 : Int32) (x1 : Int32) (x2 : Int32) (x3 : Int32) : Int32 := (if ((x5 &&& (2147483647 : Int32)) % ((x4 &&& (3 : Int32)) + (1 : Int32))) = (0 : Int32) then x0 else (if ((x5 &&& (2147483647 : Int32)) % ((x4 &&& (3 : Int32)) + (1 : Int32))) = (1 : Int32) then x1 else (if ((x5 &&& (2147483647 : Int32)) % ((x4 &&& (3 : Int32)) + (1 : Int32))) = (2 : Int32) then x2 else x3)))
set_option maxRecDepth 65536 in
set_option maxHeartbeats 40000000 in
theorem own_law (l : Launch) (Z : State) (a0 : Array Value) (hw : ∀ d ∈ tables_1, d.before a0 Z = true) (x0 : Int32) (x1 : Int32) (x2 : Int32) (x3 : Int32) (x4 : Int32) (x5 : Int32) (h0 : Heap) (n0 : Nat) (Z0 : n0 ≤ h0.size) :
    own_Met l Z x code maxLocals ret room_1 #[(.int x0), (.int x1), (.int x2), (.int x3), (.int x4), (.int x5)] h0 (fun v h L => v = some (.int 1) ∧ Fr n0 L) := by
  refine own_met pn_0 ?_
  intro p e s m below meth c T0 X0 hx hby hml hown hZ e0 hret hlk hnm
  replace hown : s.vm.findClass "com/example/needle_in_text/needleintext/text/ByteTextSymbolAtPinLaw" = some m.cls := hown
  replace hml : c.maxLocals = 13 := hml
  rw [ef_0 m x0 x1 x2 x3 x4 x5]
  have N0 := Fr.nil n0
  show own_Fin _ _ _ _ _ _ _ (T0.setTop (mkF m 0 #[.val (.int x0), .val (.int x1), .val (.int x2), .val (.int x3), .val (.int x4), .val (.int x5), .unset, .unset, .unset, .unset, .unset, .unset, .unset] []))
  refine own_of (fun _ kk => XS.iconst X0.here hx rfl (hb hby at_0) kk) ?_
  show own_Fin _ _ _ _ _ _ _ (T0.setTop (mkF m 1 #[.val (.int x0), .val (.int x1), .val (.int x2), .val (.int x3), .val (.int x4), .val (.int x5), .unset, .unset, .unset, .unset, .unset, .unset, .unset] [(.int (4 : Int32))]))
  refine own_newP X0 hx hZ (hw _ (List.mem_of_getElem? (i := 0) rfl)) e0 (hb hby at_1) (n := 4) (by decide) (cap := 4) (Nat.le_refl _) (by decide) (by decide) (by decide) ?_
  intro T1 h1 b1 X1 e1 E1 g1 A1
  have Z1 : n0 ≤ h1.size := Nat.le_trans Z0 E1.1
  have ge_b1 : n0 ≤ b1 := by rw [g1]; exact Z0
  replace A1 : own_Arf Z h1 b1 .byte 4 (fun _ => (.int (0 : Int32))) := A1
  show own_Fin _ _ _ _ _ _ _ (T1.setTop (mkF m 3 #[.val (.int x0), .val (.int x1), .val (.int x2), .val (.int x3), .val (.int x4), .val (.int x5), .unset, .unset, .unset, .unset, .unset, .unset, .unset] [(.ref b1)]))
  refine own_of (fun _ kk => XS.astore X1.here hx rfl (hb hby at_3) rfl rfl (l' := #[.val (.int x0), .val (.int x1), .val (.int x2), .val (.int x3), .val (.int x4), .val (.int x5), .val (.ref b1), .unset, .unset, .unset, .unset, .unset, .unset]) rfl kk) ?_
  show own_Fin _ _ _ _ _ _ _ (T1.setTop (mkF m 5 #[.val (.int x0), .val (.int x1), .val (.int x2), .val (.int x3), .val (.int x4), .val (.int x5), .val (.ref b1), .unset, .unset, .unset, .unset, .unset, .unset] []))
  refine own_of (fun _ kk => XS.aload X1.here hx rfl (hb hby at_5) rfl rfl kk) ?_
  show own_Fin _ _ _ _ _ _ _ (T1.setTop (mkF m 7 #[.val (.int x0), .val (.int x1), .val (.int x2), .val (.int x3), .val (.int x4), .val (.int x5), .val (.ref b1), .unset, .unset, .unset, .unset, .unset, .unset] [(.ref b1)]))
  refine own_of (fun _ kk => XS.iconst X1.here hx rfl (hb hby at_7) kk) ?_
  show own_Fin _ _ _ _ _ _ _ (T1.setTop (mkF m 8 #[.val (.int x0), .val (.int x1), .val (.int x2), .val (.int x3), .val (.int x4), .val (.int x5), .val (.ref b1), .unset, .unset, .unset, .unset, .unset, .unset] [(.int (0 : Int32)), (.ref b1)]))
  refine own_of (fun _ kk => XS.iloadN X1.here hx rfl (hb hby at_8) rfl kk) ?_
  show own_Fin _ _ _ _ _ _ _ (T1.setTop (mkF m 9 #[.val (.int x0), .val (.int x1), .val (.int x2), .val (.int x3), .val (.int x4), .val (.int x5), .val (.ref b1), .unset, .unset, .unset, .unset, .unset, .unset] [(.int x0), (.int (0 : Int32)), (.ref b1)]))
  refine own_of (fun _ kk => XS.i2b X1.here hx rfl (hb hby at_9) rfl kk) ?_
  show own_Fin _ _ _ _ _ _ _ (T1.setTop (mkF m 10 #[.val (.int x0), .val (.int x1), .val (.int x2), .val (.int x3), .val (.int x4), .val (.int x5), .val (.ref b1), .unset, .unset, .unset, .unset, .unset, .unset] [(.int (own_i2b x0)), (.int (0 : Int32)), (.ref b1)]))
  refine own_bastore X1 hx hZ e1 A1 N0 ge_b1 (i := 0) (by decide) (by decide) (hb hby at_10) ?_
  intro T2 h2 l2 X2 N2 e2 W2 A2
  replace A2 : own_Arf Z h2 b1 .byte 4 (fun j => if j = 0 then (.int (own_i2b (own_i2b x0))) else (fun _ => (.int (0 : Int32))) j) := A2
  have ZW2 : n0 ≤ h2.size := by rw [Wr.size W2]; exact Z1
  show own_Fin _ _ _ _ _ _ _ (T2.setTop (mkF m 11 #[.val (.int x0), .val (.int x1), .val (.int x2), .val (.int x3), .val (.int x4), .val (.int x5), .val (.ref b1), .unset, .unset, .unset, .unset, .unset, .unset] []))
  refine own_of (fun _ kk => XS.aload X2.here hx rfl (hb hby at_11) rfl rfl kk) ?_
  show own_Fin _ _ _ _ _ _ _ (T2.setTop (mkF m 13 #[.val (.int x0), .val (.int x1), .val (.int x2), .val (.int x3), .val (.int x4), .val (.int x5), .val (.ref b1), .unset, .unset, .unset, .unset, .unset, .unset] [(.ref b1)]))
  refine own_of (fun _ kk => XS.iconst X2.here hx rfl (hb hby at_13) kk) ?_
  show own_Fin _ _ _ _ _ _ _ (T2.setTop (mkF m 14 #[.val (.int x0), .val (.int x1), .val (.int x2), .val (.int x3), .val (.int x4), .val (.int x5), .val (.ref b1), .unset, .unset, .unset, .unset, .unset, .unset] [(.int (1 : Int32)), (.ref b1)]))
  refine own_of (fun _ kk => XS.iloadN X2.here hx rfl (hb hby at_14) rfl kk) ?_
  show own_Fin _ _ _ _ _ _ _ (T2.setTop (mkF m 15 #[.val (.int x0), .val (.int x1), .val (.int x2), .val (.int x3), .val (.int x4), .val (.int x5), .val (.ref b1), .unset, .unset, .unset, .unset, .unset, .unset] [(.int x1), (.int (1 : Int32)), (.ref b1)]))
  refine own_of (fun _ kk => XS.i2b X2.here hx rfl (hb hby at_15) rfl kk) ?_
  show own_Fin _ _ _ _ _ _ _ (T2.setTop (mkF m 16 #[.val (.int x0), .val (.int x1), .val (.int x2), .val (.int x3), .val (.int x4), .val (.int x5), .val (.ref b1), .unset, .unset, .unset, .unset, .unset, .unset] [(.int (own_i2b x1)), (.int (1 : Int32)), (.ref b1)]))
  refine own_bastore X2 hx hZ e2 A2 N2 ge_b1 (i := 1) (by decide) (by decide) (hb hby at_16) ?_
  intro T3 h3 l3 X3 N3 e3 W3 A3
  replace A3 : own_Arf Z h3 b1 .byte 4 (fun j => if j = 1 then (.int (own_i2b (own_i2b x1))) else (fun j => if j = 0 then (.int (own_i2b (own_i2b x0))) else (fun _ => (.int (0 : Int32))) j) j) := A3
  have ZW3 : n0 ≤ h3.size := by rw [Wr.size W3]; exact ZW2
  show own_Fin _ _ _ _ _ _ _ (T3.setTop (mkF m 17 #[.val (.int x0), .val (.int x1), .val (.int x2), .val (.int x3), .val (.int x4), .val (.int x5), .val (.ref b1), .unset, .unset, .unset, .unset, .unset, .unset] []))
  refine own_of (fun _ kk => XS.aload X3.here hx rfl (hb hby at_17) rfl rfl kk) ?_
  show own_Fin _ _ _ _ _ _ _ (T3.setTop (mkF m 19 #[.val (.int x0), .val (.int x1), .val (.int x2), .val (.int x3), .val (.int x4), .val (.int x5), .val (.ref b1), .unset, .unset, .unset, .unset, .unset, .unset] [(.ref b1)]))
  refine own_of (fun _ kk => XS.iconst X3.here hx rfl (hb hby at_19) kk) ?_
  show own_Fin _ _ _ _ _ _ _ (T3.setTop (mkF m 20 #[.val (.int x0), .val (.int x1), .val (.int x2), .val (.int x3), .val (.int x4), .val (.int x5), .val (.ref b1), .unset, .unset, .unset, .unset, .unset, .unset] [(.int (2 : Int32)), (.ref b1)]))
  refine own_of (fun _ kk => XS.iloadN X3.here hx rfl (hb hby at_20) rfl kk) ?_
  show own_Fin _ _ _ _ _ _ _ (T3.setTop (mkF m 21 #[.val (.int x0), .val (.int x1), .val (.int x2), .val (.int x3), .val (.int x4), .val (.int x5), .val (.ref b1), .unset, .unset, .unset, .unset, .unset, .unset] [(.int x2), (.int (2 : Int32)), (.ref b1)]))
  refine own_of (fun _ kk => XS.i2b X3.here hx rfl (hb hby at_21) rfl kk) ?_
  show own_Fin _ _ _ _ _ _ _ (T3.setTop (mkF m 22 #[.val (.int x0), .val (.int x1), .val (.int x2), .val (.int x3), .val (.int x4), .val (.int x5), .val (.ref b1), .unset, .unset, .unset, .unset, .unset, .unset] [(.int (own_i2b x2)), (.int (2 : Int32)), (.ref b1)]))
  refine own_bastore X3 hx hZ e3 A3 N3 ge_b1 (i := 2) (by decide) (by decide) (hb hby at_22) ?_
  intro T4 h4 l4 X4 N4 e4 W4 A4
  replace A4 : own_Arf Z h4 b1 .byte 4 (fun j => if j = 2 then (.int (own_i2b (own_i2b x2))) else (fun j => if j = 1 then (.int (own_i2b (own_i2b x1))) else (fun j => if j = 0 then (.int (own_i2b (own_i2b x0))) else (fun _ => (.int (0 : Int32))) j) j) j) := A4
  have ZW4 : n0 ≤ h4.size := by rw [Wr.size W4]; exact ZW3
  show own_Fin _ _ _ _ _ _ _ (T4.setTop (mkF m 23 #[.val (.int x0), .val (.int x1), .val (.int x2), .val (.int x3), .val (.int x4), .val (.int x5), .val (.ref b1), .unset, .unset, .unset, .unset, .unset, .unset] []))
  refine own_of (fun _ kk => XS.aload X4.here hx rfl (hb hby at_23) rfl rfl kk) ?_
  show own_Fin _ _ _ _ _ _ _ (T4.setTop (mkF m 25 #[.val (.int x0), .val (.int x1), .val (.int x2), .val (.int x3), .val (.int x4), .val (.int x5), .val (.ref b1), .unset, .unset, .unset, .unset, .unset, .unset] [(.ref b1)]))
  refine own_of (fun _ kk => XS.iconst X4.here hx rfl (hb hby at_25) kk) ?_
  show own_Fin _ _ _ _ _ _ _ (T4.setTop (mkF m 26 #[.val (.int x0), .val (.int x1), .val (.int x2), .val (.int x3), .val (.int x4), .val (.int x5), .val (.ref b1), .unset, .unset, .unset, .unset, .unset, .unset] [(.int (3 : Int32)), (.ref b1)]))
  refine own_of (fun _ kk => XS.iloadN X4.here hx rfl (hb hby at_26) rfl kk) ?_
  show own_Fin _ _ _ _ _ _ _ (T4.setTop (mkF m 27 #[.val (.int x0), .val (.int x1), .val (.int x2), .val (.int x3), .val (.int x4), .val (.int x5), .val (.ref b1), .unset, .unset, .unset, .unset, .unset, .unset] [(.int x3), (.int (3 : Int32)), (.ref b1)]))
  refine own_of (fun _ kk => XS.i2b X4.here hx rfl (hb hby at_27) rfl kk) ?_
  show own_Fin _ _ _ _ _ _ _ (T4.setTop (mkF m 28 #[.val (.int x0), .val (.int x1), .val (.int x2), .val (.int x3), .val (.int x4), .val (.int x5), .val (.ref b1), .unset, .unset, .unset, .unset, .unset, .unset] [(.int (own_i2b x3)), (.int (3 : Int32)), (.ref b1)]))
  refine own_bastore X4 hx hZ e4 A4 N4 ge_b1 (i := 3) (by decide) (by decide) (hb hby at_28) ?_
  intro T5 h5 l5 X5 N5 e5 W5 A5
  replace A5 : own_Arf Z h5 b1 .byte 4 (fun j => if j = 3 then (.int (own_i2b (own_i2b x3))) else (fun j => if j = 2 then (.int (own_i2b (own_i2b x2))) else (fun j => if j = 1 then (.int (own_i2b (own_i2b x1))) else (fun j => if j = 0 then (.int (own_i2b (own_i2b x0))) else (fun _ => (.int (0 : Int32))) j) j) j) j) := A5
  have ZW5 : n0 ≤ h5.size := by rw [Wr.size W5]; exact ZW4
  show own_Fin _ _ _ _ _ _ _ (T5.setTop (mkF m 29 #[.val (.int x0), .val (.int x1), .val (.int x2), .val (.int x3), .val (.int x4), .val (.int x5), .val (.ref b1), .unset, .unset, .unset, .unset, .unset, .unset] []))
  refine own_of (fun _ kk => XS.iload X5.here hx rfl (hb hby at_29) rfl kk) ?_
  show own_Fin _ _ _ _ _ _ _ (T5.setTop (mkF m 31 #[.val (.int x0), .val (.int x1), .val (.int x2), .val (.int x3), .val (.int x4), .val (.int x5), .val (.ref b1), .unset, .unset, .unset, .unset, .unset, .unset] [(.int x4)]))
  refine own_of (fun _ kk => XS.iconst X5.here hx rfl (hb hby at_31) kk) ?_
  show own_Fin _ _ _ _ _ _ _ (T5.setTop (mkF m 32 #[.val (.int x0), .val (.int x1), .val (.int x2), .val (.int x3), .val (.int x4), .val (.int x5), .val (.ref b1), .unset, .unset, .unset, .unset, .unset, .unset] [(.int (3 : Int32)), (.int x4)]))
  refine own_of (fun _ kk => XS.iand X5.here hx rfl (hb hby at_32) rfl kk) ?_
  show own_Fin _ _ _ _ _ _ _ (T5.setTop (mkF m 33 #[.val (.int x0), .val (.int x1), .val (.int x2), .val (.int x3), .val (.int x4), .val (.int x5), .val (.ref b1), .unset, .unset, .unset, .unset, .unset, .unset] [(.int (x4 &&& (3 : Int32)))]))
  refine own_of (fun _ kk => XS.iconst X5.here hx rfl (hb hby at_33) kk) ?_
  show own_Fin _ _ _ _ _ _ _ (T5.setTop (mkF m 34 #[.val (.int x0), .val (.int x1), .val (.int x2), .val (.int x3), .val (.int x4), .val (.int x5), .val (.ref b1), .unset, .unset, .unset, .unset, .unset, .unset] [(.int (1 : Int32)), (.int (x4 &&& (3 : Int32)))]))
  refine own_of (fun _ kk => XS.iadd X5.here hx rfl (hb hby at_34) rfl kk) ?_
  show own_Fin _ _ _ _ _ _ _ (T5.setTop (mkF m 35 #[.val (.int x0), .val (.int x1), .val (.int x2), .val (.int x3), .val (.int x4), .val (.int x5), .val (.ref b1), .unset, .unset, .unset, .unset, .unset, .unset] [(.int ((x4 &&& (3 : Int32)) + (1 : Int32)))]))
  refine own_of (fun _ kk => XS.istore X5.here hx rfl (hb hby at_35) rfl (l' := #[.val (.int x0), .val (.int x1), .val (.int x2), .val (.int x3), .val (.int x4), .val (.int x5), .val (.ref b1), .val (.int ((x4 &&& (3 : Int32)) + (1 : Int32))), .unset, .unset, .unset, .unset, .unset]) rfl kk) ?_
  show own_Fin _ _ _ _ _ _ _ (T5.setTop (mkF m 37 #[.val (.int x0), .val (.int x1), .val (.int x2), .val (.int x3), .val (.int x4), .val (.int x5), .val (.ref b1), .val (.int ((x4 &&& (3 : Int32)) + (1 : Int32))), .unset, .unset, .unset, .unset, .unset] []))
  refine own_of (fun _ kk => XS.iload X5.here hx rfl (hb hby at_37) rfl kk) ?_
  show own_Fin _ _ _ _ _ _ _ (T5.setTop (mkF m 39 #[.val (.int x0), .val (.int x1), .val (.int x2), .val (.int x3), .val (.int x4), .val (.int x5), .val (.ref b1), .val (.int ((x4 &&& (3 : Int32)) + (1 : Int32))), .unset, .unset, .unset, .unset, .unset] [(.int x5)]))
  refine own_of (fun _ kk => X5.ldcInt hx hown (mvT hZ (hw _ (List.mem_of_getElem? (i := 1) rfl))) (g := (mkF m 39 #[.val (.int x0), .val (.int x1), .val (.int x2), .val (.int x3), .val (.int x4), .val (.int x5), .val (.ref b1), .val (.int ((x4 &&& (3 : Int32)) + (1 : Int32))), .unset, .unset, .unset, .unset, .unset] [(.int x5)])) rfl (hb hby at_39) _ kk) ?_
  show own_Fin _ _ _ _ _ _ _ (T5.setTop (mkF m 41 #[.val (.int x0), .val (.int x1), .val (.int x2), .val (.int x3), .val (.int x4), .val (.int x5), .val (.ref b1), .val (.int ((x4 &&& (3 : Int32)) + (1 : Int32))), .unset, .unset, .unset, .unset, .unset] [(.int (2147483647 : Int32)), (.int x5)]))
  refine own_of (fun _ kk => XS.iand X5.here hx rfl (hb hby at_41) rfl kk) ?_
  show own_Fin _ _ _ _ _ _ _ (T5.setTop (mkF m 42 #[.val (.int x0), .val (.int x1), .val (.int x2), .val (.int x3), .val (.int x4), .val (.int x5), .val (.ref b1), .val (.int ((x4 &&& (3 : Int32)) + (1 : Int32))), .unset, .unset, .unset, .unset, .unset] [(.int (x5 &&& (2147483647 : Int32)))]))
  refine own_of (fun _ kk => XS.iload X5.here hx rfl (hb hby at_42) rfl kk) ?_
  show own_Fin _ _ _ _ _ _ _ (T5.setTop (mkF m 44 #[.val (.int x0), .val (.int x1), .val (.int x2), .val (.int x3), .val (.int x4), .val (.int x5), .val (.ref b1), .val (.int ((x4 &&& (3 : Int32)) + (1 : Int32))), .unset, .unset, .unset, .unset, .unset] [(.int ((x4 &&& (3 : Int32)) + (1 : Int32))), (.int (x5 &&& (2147483647 : Int32)))]))
  refine own_of (fun _ kk => iremM X5 hx rfl (hb hby at_44) rfl (own_nz x4) kk) ?_
  show own_Fin _ _ _ _ _ _ _ (T5.setTop (mkF m 45 #[.val (.int x0), .val (.int x1), .val (.int x2), .val (.int x3), .val (.int x4), .val (.int x5), .val (.ref b1), .val (.int ((x4 &&& (3 : Int32)) + (1 : Int32))), .unset, .unset, .unset, .unset, .unset] [(.int ((x5 &&& (2147483647 : Int32)) % ((x4 &&& (3 : Int32)) + (1 : Int32))))]))
  refine own_of (fun _ kk => XS.istore X5.here hx rfl (hb hby at_45) rfl (l' := #[.val (.int x0), .val (.int x1), .val (.int x2), .val (.int x3), .val (.int x4), .val (.int x5), .val (.ref b1), .val (.int ((x4 &&& (3 : Int32)) + (1 : Int32))), .val (.int ((x5 &&& (2147483647 : Int32)) % ((x4 &&& (3 : Int32)) + (1 : Int32)))), .unset, .unset, .unset, .unset]) rfl kk) ?_
  show own_Fin _ _ _ _ _ _ _ (T5.setTop (mkF m 47 #[.val (.int x0), .val (.int x1), .val (.int x2), .val (.int x3), .val (.int x4), .val (.int x5), .val (.ref b1), .val (.int ((x4 &&& (3 : Int32)) + (1 : Int32))), .val (.int ((x5 &&& (2147483647 : Int32)) % ((x4 &&& (3 : Int32)) + (1 : Int32)))), .unset, .unset, .unset, .unset] []))
  refine own_newO X5 hx hZ hown (hw _ (List.mem_of_getElem? (i := 2) rfl)) (hw _ (List.mem_of_getElem? (i := 3) rfl)) (hw _ (List.mem_of_getElem? (i := 4) rfl)) e5 (hb hby at_47) (by decide) (by decide) ?_
  intro T6 h6 b6 X6 e6 E6 g6 A6 D6
  have ne_b1_b6 : b1 ≠ b6 := Nat.ne_of_lt (by rw [g6]; exact A5.lt)
  replace A5 := A5.ext E6
  have Z6 : n0 ≤ h6.size := Nat.le_trans ZW5 E6.1
  have ge_b6 : n0 ≤ b6 := by rw [g6]; exact ZW5
  have Fb6_bytes : Fld Z h6 b6 "com/example/needle_in_text/needleintext/text/ByteText" "bytes" "[B" .null := D6 (Or.inl (hw _ (List.mem_of_getElem? (i := 17) rfl))) (ty := (.array .byte)) (by decide)
  have Fb6_length : Fld Z h6 b6 "com/example/needle_in_text/needleintext/text/ByteText" "length" "I" (.int (0 : Int32)) := D6 (Or.inl (hw _ (List.mem_of_getElem? (i := 19) rfl))) (ty := .int) (by decide)
  show own_Fin _ _ _ _ _ _ _ (T6.setTop (mkF m 50 #[.val (.int x0), .val (.int x1), .val (.int x2), .val (.int x3), .val (.int x4), .val (.int x5), .val (.ref b1), .val (.int ((x4 &&& (3 : Int32)) + (1 : Int32))), .val (.int ((x5 &&& (2147483647 : Int32)) % ((x4 &&& (3 : Int32)) + (1 : Int32)))), .unset, .unset, .unset, .unset] [(.ref b6)]))
  refine own_of (fun _ kk => XS.dup X6.here hx rfl (hb hby at_50) rfl rfl kk) ?_
  show own_Fin _ _ _ _ _ _ _ (T6.setTop (mkF m 51 #[.val (.int x0), .val (.int x1), .val (.int x2), .val (.int x3), .val (.int x4), .val (.int x5), .val (.ref b1), .val (.int ((x4 &&& (3 : Int32)) + (1 : Int32))), .val (.int ((x5 &&& (2147483647 : Int32)) % ((x4 &&& (3 : Int32)) + (1 : Int32)))), .unset, .unset, .unset, .unset] [(.ref b6), (.ref b6)]))
  refine own_of (fun _ kk => XS.aload X6.here hx rfl (hb hby at_51) rfl rfl kk) ?_
  show own_Fin _ _ _ _ _ _ _ (T6.setTop (mkF m 53 #[.val (.int x0), .val (.int x1), .val (.int x2), .val (.int x3), .val (.int x4), .val (.int x5), .val (.ref b1), .val (.int ((x4 &&& (3 : Int32)) + (1 : Int32))), .val (.int ((x5 &&& (2147483647 : Int32)) % ((x4 &&& (3 : Int32)) + (1 : Int32)))), .unset, .unset, .unset, .unset] [(.ref b1), (.ref b6), (.ref b6)]))
  refine own_of (fun _ kk => XS.iload X6.here hx rfl (hb hby at_53) rfl kk) ?_
  show own_Fin _ _ _ _ _ _ _ (T6.setTop (mkF m 55 #[.val (.int x0), .val (.int x1), .val (.int x2), .val (.int x3), .val (.int x4), .val (.int x5), .val (.ref b1), .val (.int ((x4 &&& (3 : Int32)) + (1 : Int32))), .val (.int ((x5 &&& (2147483647 : Int32)) % ((x4 &&& (3 : Int32)) + (1 : Int32)))), .unset, .unset, .unset, .unset] [(.int ((x4 &&& (3 : Int32)) + (1 : Int32))), (.ref b1), (.ref b6), (.ref b6)]))
  refine own_callC X6 hx hZ (y := (⟨"com/example/needle_in_text/needleintext/text/ByteText", "<init>", "([BI)V"⟩ : MethodName)) rfl hown (hw _ (List.mem_of_getElem? (i := 5) rfl)) (hw _ (List.mem_of_getElem? (i := 6) rfl)) (hw _ (List.mem_of_getElem? (i := 4) rfl)) (hw _ (List.mem_of_getElem? (i := 7) rfl)) (by decide) e6 (argsL := [(.ref b1), (.int ((x4 &&& (3 : Int32)) + (1 : Int32)))]) (met1 l Z a0 hw b6 b1 ((x4 &&& (3 : Int32)) + (1 : Int32)) 4 (fun j => if j = 3 then (own_i2b (own_i2b x3)) else (if j = 2 then (own_i2b (own_i2b x2)) else (if j = 1 then (own_i2b (own_i2b x1)) else (if j = 0 then (own_i2b (own_i2b x0)) else (0 : Int32))))) h6 n0 Z6 A6 Fb6_bytes Fb6_length (A5.congr fun j _ => by dsimp only; (repeat' split) <;> rfl) (Ne.symm ne_b1_b6) ge_b6 ge_b1) (W := 1) (by decide) (by decide) (by decide) (by decide) (by rw [hml]; rfl) pd_5 rfl (rest := [(.ref b6)]) rfl (Nat.le_of_eq rfl) (hb hby at_55) ?_
  intro v7 T7 h7 L7 X7 e7 q7
  obtain ⟨rfl, N7q, Z7, O7, -⟩ := q7
  have N7 := Fr.app N5 N7q
  show own_Fin _ _ _ _ _ _ _ (T7.setTop (mkF m 58 #[.val (.int x0), .val (.int x1), .val (.int x2), .val (.int x3), .val (.int x4), .val (.int x5), .val (.ref b1), .val (.int ((x4 &&& (3 : Int32)) + (1 : Int32))), .val (.int ((x5 &&& (2147483647 : Int32)) % ((x4 &&& (3 : Int32)) + (1 : Int32)))), .unset, .unset, .unset, .unset] [(.ref b6)]))
  refine own_of (fun _ kk => XS.astore X7.here hx rfl (hb hby at_58) rfl rfl (l' := #[.val (.int x0), .val (.int x1), .val (.int x2), .val (.int x3), .val (.int x4), .val (.int x5), .val (.ref b1), .val (.int ((x4 &&& (3 : Int32)) + (1 : Int32))), .val (.int ((x5 &&& (2147483647 : Int32)) % ((x4 &&& (3 : Int32)) + (1 : Int32)))), .val (.ref b6), .unset, .unset, .unset]) rfl kk) ?_
  show own_Fin _ _ _ _ _ _ _ (T7.setTop (mkF m 60 #[.val (.int x0), .val (.int x1), .val (.int x2), .val (.int x3), .val (.int x4), .val (.int x5), .val (.ref b1), .val (.int ((x4 &&& (3 : Int32)) + (1 : Int32))), .val (.int ((x5 &&& (2147483647 : Int32)) % ((x4 &&& (3 : Int32)) + (1 : Int32)))), .val (.ref b6), .unset, .unset, .unset] []))
  refine own_of (fun _ kk => XS.aload X7.here hx rfl (hb hby at_60) rfl rfl kk) ?_
  show own_Fin _ _ _ _ _ _ _ (T7.setTop (mkF m 62 #[.val (.int x0), .val (.int x1), .val (.int x2), .val (.int x3), .val (.int x4), .val (.int x5), .val (.ref b1), .val (.int ((x4 &&& (3 : Int32)) + (1 : Int32))), .val (.int ((x5 &&& (2147483647 : Int32)) % ((x4 &&& (3 : Int32)) + (1 : Int32)))), .val (.ref b6), .unset, .unset, .unset] [(.ref b6)]))
  refine own_of (fun _ kk => XS.iload X7.here hx rfl (hb hby at_62) rfl kk) ?_
  show own_Fin _ _ _ _ _ _ _ (T7.setTop (mkF m 64 #[.val (.int x0), .val (.int x1), .val (.int x2), .val (.int x3), .val (.int x4), .val (.int x5), .val (.ref b1), .val (.int ((x4 &&& (3 : Int32)) + (1 : Int32))), .val (.int ((x5 &&& (2147483647 : Int32)) % ((x4 &&& (3 : Int32)) + (1 : Int32)))), .val (.ref b6), .unset, .unset, .unset] [(.int ((x5 &&& (2147483647 : Int32)) % ((x4 &&& (3 : Int32)) + (1 : Int32)))), (.ref b6)]))
  refine own_callV X7 hx hZ (y := (⟨"com/example/needle_in_text/needleintext/text/ByteText", "symbolAt", "(I)I"⟩ : MethodName)) (z := (⟨"com/example/needle_in_text/needleintext/text/ByteText", "symbolAt", "(I)I"⟩ : MethodName)) hown (hw _ (List.mem_of_getElem? (i := 20) rfl)) (hw _ (List.mem_of_getElem? (i := 21) rfl)) (notFace_of_selects (args := #[]) (mvT hZ (hw _ (List.mem_of_getElem? (i := 23) rfl)))) (hw _ (List.mem_of_getElem? (i := 23) rfl)) (hw _ (List.mem_of_getElem? (i := 22) rfl)) (hw _ (List.mem_of_getElem? (i := 4) rfl)) (hw _ (List.mem_of_getElem? (i := 24) rfl)) (by decide) e7 O7.1 (argsL := [(.int ((x5 &&& (2147483647 : Int32)) % ((x4 &&& (3 : Int32)) + (1 : Int32))))]) (met4 l Z a0 hw b6 ((x5 &&& (2147483647 : Int32)) % ((x4 &&& (3 : Int32)) + (1 : Int32))) b1 (own_ln x4) 4 (fun j => if j = 3 then (own_i2b (own_i2b x3)) else (if j = 2 then (own_i2b (own_i2b x2)) else (if j = 1 then (own_i2b (own_i2b x1)) else (if j = 0 then (own_i2b (own_i2b x0)) else (0 : Int32))))) (own_ix x4 x5).toInt.toNat (own_i2b (own_i2b (own_pick (own_ix x4 x5) x0 x1 x2 x3))) h7 n0 Z7 O7 (own_h1 x4 x5) (own_h2 x4 x5) (Int.toNat_of_nonneg (own_ir x4 x5).1).symm (by have := own_ir x4 x5; have := own_lr x4; omega) (own_hv _ x0 x1 x2 x3 (own_ir x4 x5).1 (by have := own_ir x4 x5; have := own_lr x4; omega))) (W := 0) (by decide) (by decide) (by decide) (by decide) (by rw [hml]; rfl) pd_1 rfl (rest := []) rfl (Nat.le_of_eq rfl) (hb hby at_64) ?_
  intro v8 T8 h8 L8 X8 e8 q8
  obtain ⟨rfl, qh8, rfl⟩ := q8
  rw [qh8] at e8
  have N8 := Fr.app N7 (Fr.nil n0)
  show own_Fin _ _ _ _ _ _ _ (T8.setTop (mkF m 67 #[.val (.int x0), .val (.int x1), .val (.int x2), .val (.int x3), .val (.int x4), .val (.int x5), .val (.ref b1), .val (.int ((x4 &&& (3 : Int32)) + (1 : Int32))), .val (.int ((x5 &&& (2147483647 : Int32)) % ((x4 &&& (3 : Int32)) + (1 : Int32)))), .val (.ref b6), .unset, .unset, .unset] [(.int ((own_i2b (own_i2b (own_pick (own_ix x4 x5) x0 x1 x2 x3))) &&& 255))]))
  refine own_of (fun _ kk => XS.istore X8.here hx rfl (hb hby at_67) rfl (l' := #[.val (.int x0), .val (.int x1), .val (.int x2), .val (.int x3), .val (.int x4), .val (.int x5), .val (.ref b1), .val (.int ((x4 &&& (3 : Int32)) + (1 : Int32))), .val (.int ((x5 &&& (2147483647 : Int32)) % ((x4 &&& (3 : Int32)) + (1 : Int32)))), .val (.ref b6), .val (.int ((own_i2b (own_i2b (own_pick (own_ix x4 x5) x0 x1 x2 x3))) &&& 255)), .unset, .unset]) rfl kk) ?_
  show own_Fin _ _ _ _ _ _ _ (T8.setTop (mkF m 69 #[.val (.int x0), .val (.int x1), .val (.int x2), .val (.int x3), .val (.int x4), .val (.int x5), .val (.ref b1), .val (.int ((x4 &&& (3 : Int32)) + (1 : Int32))), .val (.int ((x5 &&& (2147483647 : Int32)) % ((x4 &&& (3 : Int32)) + (1 : Int32)))), .val (.ref b6), .val (.int ((own_i2b (own_i2b (own_pick (own_ix x4 x5) x0 x1 x2 x3))) &&& 255)), .unset, .unset] []))
  refine own_of (fun _ kk => XS.iload X8.here hx rfl (hb hby at_69) rfl kk) ?_
  show own_Fin _ _ _ _ _ _ _ (T8.setTop (mkF m 71 #[.val (.int x0), .val (.int x1), .val (.int x2), .val (.int x3), .val (.int x4), .val (.int x5), .val (.ref b1), .val (.int ((x4 &&& (3 : Int32)) + (1 : Int32))), .val (.int ((x5 &&& (2147483647 : Int32)) % ((x4 &&& (3 : Int32)) + (1 : Int32)))), .val (.ref b6), .val (.int ((own_i2b (own_i2b (own_pick (own_ix x4 x5) x0 x1 x2 x3))) &&& 255)), .unset, .unset] [(.int ((x5 &&& (2147483647 : Int32)) % ((x4 &&& (3 : Int32)) + (1 : Int32))))]))
  suffices k9 : own_Fin _ _ _ _ _ _ _ (T8.setTop (mkF m 107 #[.val (.int x0), .val (.int x1), .val (.int x2), .val (.int x3), .val (.int x4), .val (.int x5), .val (.ref b1), .val (.int ((x4 &&& (3 : Int32)) + (1 : Int32))), .val (.int ((x5 &&& (2147483647 : Int32)) % ((x4 &&& (3 : Int32)) + (1 : Int32)))), .val (.ref b6), .val (.int ((own_i2b (own_i2b (own_pick (own_ix x4 x5) x0 x1 x2 x3))) &&& 255)), .val (.int (own_m0_107a x5 x4 x0 x1 x2 x3)), .unset] [])) by
    by_cases c71 : ((x5 &&& (2147483647 : Int32)) % ((x4 &&& (3 : Int32)) + (1 : Int32))) = (0 : Int32)
    · refine own_of (fun _ kk => XS.ifNo X8.here hx rfl (hb hby at_71) rfl ((if0 _ _).trans (teq c71).2) kk) ?_
      show own_Fin _ _ _ _ _ _ _ (T8.setTop (mkF m 74 #[.val (.int x0), .val (.int x1), .val (.int x2), .val (.int x3), .val (.int x4), .val (.int x5), .val (.ref b1), .val (.int ((x4 &&& (3 : Int32)) + (1 : Int32))), .val (.int ((x5 &&& (2147483647 : Int32)) % ((x4 &&& (3 : Int32)) + (1 : Int32)))), .val (.ref b6), .val (.int ((own_i2b (own_i2b (own_pick (own_ix x4 x5) x0 x1 x2 x3))) &&& 255)), .unset, .unset] []))
      refine own_of (fun _ kk => XS.iloadN X8.here hx rfl (hb hby at_74) rfl kk) ?_
      show own_Fin _ _ _ _ _ _ _ (T8.setTop (mkF m 75 #[.val (.int x0), .val (.int x1), .val (.int x2), .val (.int x3), .val (.int x4), .val (.int x5), .val (.ref b1), .val (.int ((x4 &&& (3 : Int32)) + (1 : Int32))), .val (.int ((x5 &&& (2147483647 : Int32)) % ((x4 &&& (3 : Int32)) + (1 : Int32)))), .val (.ref b6), .val (.int ((own_i2b (own_i2b (own_pick (own_ix x4 x5) x0 x1 x2 x3))) &&& 255)), .unset, .unset] [(.int x0)]))
      refine own_of (fun _ kk => XS.istore X8.here hx rfl (hb hby at_75) rfl (l' := #[.val (.int x0), .val (.int x1), .val (.int x2), .val (.int x3), .val (.int x4), .val (.int x5), .val (.ref b1), .val (.int ((x4 &&& (3 : Int32)) + (1 : Int32))), .val (.int ((x5 &&& (2147483647 : Int32)) % ((x4 &&& (3 : Int32)) + (1 : Int32)))), .val (.ref b6), .val (.int ((own_i2b (own_i2b (own_pick (own_ix x4 x5) x0 x1 x2 x3))) &&& 255)), .val (.int x0), .unset]) rfl kk) ?_
      show own_Fin _ _ _ _ _ _ _ (T8.setTop (mkF m 77 #[.val (.int x0), .val (.int x1), .val (.int x2), .val (.int x3), .val (.int x4), .val (.int x5), .val (.ref b1), .val (.int ((x4 &&& (3 : Int32)) + (1 : Int32))), .val (.int ((x5 &&& (2147483647 : Int32)) % ((x4 &&& (3 : Int32)) + (1 : Int32)))), .val (.ref b6), .val (.int ((own_i2b (own_i2b (own_pick (own_ix x4 x5) x0 x1 x2 x3))) &&& 255)), .val (.int x0), .unset] []))
      refine own_of (fun _ kk => XS.goto X8.here hx rfl (pc0 := 77) (pc' := 107) rfl (hb hby at_77) (by decide) (by decide) kk) ?_
      show own_Fin _ _ _ _ _ _ _ (T8.setTop (mkF m 107 #[.val (.int x0), .val (.int x1), .val (.int x2), .val (.int x3), .val (.int x4), .val (.int x5), .val (.ref b1), .val (.int ((x4 &&& (3 : Int32)) + (1 : Int32))), .val (.int ((x5 &&& (2147483647 : Int32)) % ((x4 &&& (3 : Int32)) + (1 : Int32)))), .val (.ref b6), .val (.int ((own_i2b (own_i2b (own_pick (own_ix x4 x5) x0 x1 x2 x3))) &&& 255)), .val (.int x0), .unset] []))
      simp only [own_m0_107a, if_pos c71] at k9 ⊢
      exact k9
    · refine own_of (fun _ kk => XS.ifYes X8.here hx rfl (pc0 := 71) (pc' := 80) rfl (hb hby at_71) rfl ((if0 _ _).trans (feq c71).2) (by decide) (by decide) kk) ?_
      show own_Fin _ _ _ _ _ _ _ (T8.setTop (mkF m 80 #[.val (.int x0), .val (.int x1), .val (.int x2), .val (.int x3), .val (.int x4), .val (.int x5), .val (.ref b1), .val (.int ((x4 &&& (3 : Int32)) + (1 : Int32))), .val (.int ((x5 &&& (2147483647 : Int32)) % ((x4 &&& (3 : Int32)) + (1 : Int32)))), .val (.ref b6), .val (.int ((own_i2b (own_i2b (own_pick (own_ix x4 x5) x0 x1 x2 x3))) &&& 255)), .unset, .unset] []))
      refine own_of (fun _ kk => XS.iload X8.here hx rfl (hb hby at_80) rfl kk) ?_
      show own_Fin _ _ _ _ _ _ _ (T8.setTop (mkF m 82 #[.val (.int x0), .val (.int x1), .val (.int x2), .val (.int x3), .val (.int x4), .val (.int x5), .val (.ref b1), .val (.int ((x4 &&& (3 : Int32)) + (1 : Int32))), .val (.int ((x5 &&& (2147483647 : Int32)) % ((x4 &&& (3 : Int32)) + (1 : Int32)))), .val (.ref b6), .val (.int ((own_i2b (own_i2b (own_pick (own_ix x4 x5) x0 x1 x2 x3))) &&& 255)), .unset, .unset] [(.int ((x5 &&& (2147483647 : Int32)) % ((x4 &&& (3 : Int32)) + (1 : Int32))))]))
      refine own_of (fun _ kk => XS.iconst X8.here hx rfl (hb hby at_82) kk) ?_
      show own_Fin _ _ _ _ _ _ _ (T8.setTop (mkF m 83 #[.val (.int x0), .val (.int x1), .val (.int x2), .val (.int x3), .val (.int x4), .val (.int x5), .val (.ref b1), .val (.int ((x4 &&& (3 : Int32)) + (1 : Int32))), .val (.int ((x5 &&& (2147483647 : Int32)) % ((x4 &&& (3 : Int32)) + (1 : Int32)))), .val (.ref b6), .val (.int ((own_i2b (own_i2b (own_pick (own_ix x4 x5) x0 x1 x2 x3))) &&& 255)), .unset, .unset] [(.int (1 : Int32)), (.int ((x5 &&& (2147483647 : Int32)) % ((x4 &&& (3 : Int32)) + (1 : Int32))))]))
      by_cases c83 : ((x5 &&& (2147483647 : Int32)) % ((x4 &&& (3 : Int32)) + (1 : Int32))) = (1 : Int32)
      · refine own_of (fun _ kk => XS.icmpNo X8.here hx rfl (hb hby at_83) rfl (teq c83).2 kk) ?_
        show own_Fin _ _ _ _ _ _ _ (T8.setTop (mkF m 86 #[.val (.int x0), .val (.int x1), .val (.int x2), .val (.int x3), .val (.int x4), .val (.int x5), .val (.ref b1), .val (.int ((x4 &&& (3 : Int32)) + (1 : Int32))), .val (.int ((x5 &&& (2147483647 : Int32)) % ((x4 &&& (3 : Int32)) + (1 : Int32)))), .val (.ref b6), .val (.int ((own_i2b (own_i2b (own_pick (own_ix x4 x5) x0 x1 x2 x3))) &&& 255)), .unset, .unset] []))
        refine own_of (fun _ kk => XS.iloadN X8.here hx rfl (hb hby at_86) rfl kk) ?_
        show own_Fin _ _ _ _ _ _ _ (T8.setTop (mkF m 87 #[.val (.int x0), .val (.int x1), .val (.int x2), .val (.int x3), .val (.int x4), .val (.int x5), .val (.ref b1), .val (.int ((x4 &&& (3 : Int32)) + (1 : Int32))), .val (.int ((x5 &&& (2147483647 : Int32)) % ((x4 &&& (3 : Int32)) + (1 : Int32)))), .val (.ref b6), .val (.int ((own_i2b (own_i2b (own_pick (own_ix x4 x5) x0 x1 x2 x3))) &&& 255)), .unset, .unset] [(.int x1)]))
        refine own_of (fun _ kk => XS.istore X8.here hx rfl (hb hby at_87) rfl (l' := #[.val (.int x0), .val (.int x1), .val (.int x2), .val (.int x3), .val (.int x4), .val (.int x5), .val (.ref b1), .val (.int ((x4 &&& (3 : Int32)) + (1 : Int32))), .val (.int ((x5 &&& (2147483647 : Int32)) % ((x4 &&& (3 : Int32)) + (1 : Int32)))), .val (.ref b6), .val (.int ((own_i2b (own_i2b (own_pick (own_ix x4 x5) x0 x1 x2 x3))) &&& 255)), .val (.int x1), .unset]) rfl kk) ?_
        show own_Fin _ _ _ _ _ _ _ (T8.setTop (mkF m 89 #[.val (.int x0), .val (.int x1), .val (.int x2), .val (.int x3), .val (.int x4), .val (.int x5), .val (.ref b1), .val (.int ((x4 &&& (3 : Int32)) + (1 : Int32))), .val (.int ((x5 &&& (2147483647 : Int32)) % ((x4 &&& (3 : Int32)) + (1 : Int32)))), .val (.ref b6), .val (.int ((own_i2b (own_i2b (own_pick (own_ix x4 x5) x0 x1 x2 x3))) &&& 255)), .val (.int x1), .unset] []))
        refine own_of (fun _ kk => XS.goto X8.here hx rfl (pc0 := 89) (pc' := 107) rfl (hb hby at_89) (by decide) (by decide) kk) ?_
        show own_Fin _ _ _ _ _ _ _ (T8.setTop (mkF m 107 #[.val (.int x0), .val (.int x1), .val (.int x2), .val (.int x3), .val (.int x4), .val (.int x5), .val (.ref b1), .val (.int ((x4 &&& (3 : Int32)) + (1 : Int32))), .val (.int ((x5 &&& (2147483647 : Int32)) % ((x4 &&& (3 : Int32)) + (1 : Int32)))), .val (.ref b6), .val (.int ((own_i2b (own_i2b (own_pick (own_ix x4 x5) x0 x1 x2 x3))) &&& 255)), .val (.int x1), .unset] []))
        simp only [own_m0_107a, if_neg c71, if_pos c83] at k9 ⊢
        exact k9
      · refine own_of (fun _ kk => XS.icmpYes X8.here hx rfl (pc0 := 83) (pc' := 92) rfl (hb hby at_83) rfl (feq c83).2 (by decide) (by decide) kk) ?_
        show own_Fin _ _ _ _ _ _ _ (T8.setTop (mkF m 92 #[.val (.int x0), .val (.int x1), .val (.int x2), .val (.int x3), .val (.int x4), .val (.int x5), .val (.ref b1), .val (.int ((x4 &&& (3 : Int32)) + (1 : Int32))), .val (.int ((x5 &&& (2147483647 : Int32)) % ((x4 &&& (3 : Int32)) + (1 : Int32)))), .val (.ref b6), .val (.int ((own_i2b (own_i2b (own_pick (own_ix x4 x5) x0 x1 x2 x3))) &&& 255)), .unset, .unset] []))
        refine own_of (fun _ kk => XS.iload X8.here hx rfl (hb hby at_92) rfl kk) ?_
        show own_Fin _ _ _ _ _ _ _ (T8.setTop (mkF m 94 #[.val (.int x0), .val (.int x1), .val (.int x2), .val (.int x3), .val (.int x4), .val (.int x5), .val (.ref b1), .val (.int ((x4 &&& (3 : Int32)) + (1 : Int32))), .val (.int ((x5 &&& (2147483647 : Int32)) % ((x4 &&& (3 : Int32)) + (1 : Int32)))), .val (.ref b6), .val (.int ((own_i2b (own_i2b (own_pick (own_ix x4 x5) x0 x1 x2 x3))) &&& 255)), .unset, .unset] [(.int ((x5 &&& (2147483647 : Int32)) % ((x4 &&& (3 : Int32)) + (1 : Int32))))]))
        refine own_of (fun _ kk => XS.iconst X8.here hx rfl (hb hby at_94) kk) ?_
        show own_Fin _ _ _ _ _ _ _ (T8.setTop (mkF m 95 #[.val (.int x0), .val (.int x1), .val (.int x2), .val (.int x3), .val (.int x4), .val (.int x5), .val (.ref b1), .val (.int ((x4 &&& (3 : Int32)) + (1 : Int32))), .val (.int ((x5 &&& (2147483647 : Int32)) % ((x4 &&& (3 : Int32)) + (1 : Int32)))), .val (.ref b6), .val (.int ((own_i2b (own_i2b (own_pick (own_ix x4 x5) x0 x1 x2 x3))) &&& 255)), .unset, .unset] [(.int (2 : Int32)), (.int ((x5 &&& (2147483647 : Int32)) % ((x4 &&& (3 : Int32)) + (1 : Int32))))]))
        by_cases c95 : ((x5 &&& (2147483647 : Int32)) % ((x4 &&& (3 : Int32)) + (1 : Int32))) = (2 : Int32)
        · refine own_of (fun _ kk => XS.icmpNo X8.here hx rfl (hb hby at_95) rfl (teq c95).2 kk) ?_
          show own_Fin _ _ _ _ _ _ _ (T8.setTop (mkF m 98 #[.val (.int x0), .val (.int x1), .val (.int x2), .val (.int x3), .val (.int x4), .val (.int x5), .val (.ref b1), .val (.int ((x4 &&& (3 : Int32)) + (1 : Int32))), .val (.int ((x5 &&& (2147483647 : Int32)) % ((x4 &&& (3 : Int32)) + (1 : Int32)))), .val (.ref b6), .val (.int ((own_i2b (own_i2b (own_pick (own_ix x4 x5) x0 x1 x2 x3))) &&& 255)), .unset, .unset] []))
          refine own_of (fun _ kk => XS.iloadN X8.here hx rfl (hb hby at_98) rfl kk) ?_
          show own_Fin _ _ _ _ _ _ _ (T8.setTop (mkF m 99 #[.val (.int x0), .val (.int x1), .val (.int x2), .val (.int x3), .val (.int x4), .val (.int x5), .val (.ref b1), .val (.int ((x4 &&& (3 : Int32)) + (1 : Int32))), .val (.int ((x5 &&& (2147483647 : Int32)) % ((x4 &&& (3 : Int32)) + (1 : Int32)))), .val (.ref b6), .val (.int ((own_i2b (own_i2b (own_pick (own_ix x4 x5) x0 x1 x2 x3))) &&& 255)), .unset, .unset] [(.int x2)]))
          refine own_of (fun _ kk => XS.istore X8.here hx rfl (hb hby at_99) rfl (l' := #[.val (.int x0), .val (.int x1), .val (.int x2), .val (.int x3), .val (.int x4), .val (.int x5), .val (.ref b1), .val (.int ((x4 &&& (3 : Int32)) + (1 : Int32))), .val (.int ((x5 &&& (2147483647 : Int32)) % ((x4 &&& (3 : Int32)) + (1 : Int32)))), .val (.ref b6), .val (.int ((own_i2b (own_i2b (own_pick (own_ix x4 x5) x0 x1 x2 x3))) &&& 255)), .val (.int x2), .unset]) rfl kk) ?_
          show own_Fin _ _ _ _ _ _ _ (T8.setTop (mkF m 101 #[.val (.int x0), .val (.int x1), .val (.int x2), .val (.int x3), .val (.int x4), .val (.int x5), .val (.ref b1), .val (.int ((x4 &&& (3 : Int32)) + (1 : Int32))), .val (.int ((x5 &&& (2147483647 : Int32)) % ((x4 &&& (3 : Int32)) + (1 : Int32)))), .val (.ref b6), .val (.int ((own_i2b (own_i2b (own_pick (own_ix x4 x5) x0 x1 x2 x3))) &&& 255)), .val (.int x2), .unset] []))
          refine own_of (fun _ kk => XS.goto X8.here hx rfl (pc0 := 101) (pc' := 107) rfl (hb hby at_101) (by decide) (by decide) kk) ?_
          show own_Fin _ _ _ _ _ _ _ (T8.setTop (mkF m 107 #[.val (.int x0), .val (.int x1), .val (.int x2), .val (.int x3), .val (.int x4), .val (.int x5), .val (.ref b1), .val (.int ((x4 &&& (3 : Int32)) + (1 : Int32))), .val (.int ((x5 &&& (2147483647 : Int32)) % ((x4 &&& (3 : Int32)) + (1 : Int32)))), .val (.ref b6), .val (.int ((own_i2b (own_i2b (own_pick (own_ix x4 x5) x0 x1 x2 x3))) &&& 255)), .val (.int x2), .unset] []))
          simp only [own_m0_107a, if_neg c71, if_neg c83, if_pos c95] at k9 ⊢
          exact k9
        · refine own_of (fun _ kk => XS.icmpYes X8.here hx rfl (pc0 := 95) (pc' := 104) rfl (hb hby at_95) rfl (feq c95).2 (by decide) (by decide) kk) ?_
          show own_Fin _ _ _ _ _ _ _ (T8.setTop (mkF m 104 #[.val (.int x0), .val (.int x1), .val (.int x2), .val (.int x3), .val (.int x4), .val (.int x5), .val (.ref b1), .val (.int ((x4 &&& (3 : Int32)) + (1 : Int32))), .val (.int ((x5 &&& (2147483647 : Int32)) % ((x4 &&& (3 : Int32)) + (1 : Int32)))), .val (.ref b6), .val (.int ((own_i2b (own_i2b (own_pick (own_ix x4 x5) x0 x1 x2 x3))) &&& 255)), .unset, .unset] []))
          refine own_of (fun _ kk => XS.iloadN X8.here hx rfl (hb hby at_104) rfl kk) ?_
          show own_Fin _ _ _ _ _ _ _ (T8.setTop (mkF m 105 #[.val (.int x0), .val (.int x1), .val (.int x2), .val (.int x3), .val (.int x4), .val (.int x5), .val (.ref b1), .val (.int ((x4 &&& (3 : Int32)) + (1 : Int32))), .val (.int ((x5 &&& (2147483647 : Int32)) % ((x4 &&& (3 : Int32)) + (1 : Int32)))), .val (.ref b6), .val (.int ((own_i2b (own_i2b (own_pick (own_ix x4 x5) x0 x1 x2 x3))) &&& 255)), .unset, .unset] [(.int x3)]))
          refine own_of (fun _ kk => XS.istore X8.here hx rfl (hb hby at_105) rfl (l' := #[.val (.int x0), .val (.int x1), .val (.int x2), .val (.int x3), .val (.int x4), .val (.int x5), .val (.ref b1), .val (.int ((x4 &&& (3 : Int32)) + (1 : Int32))), .val (.int ((x5 &&& (2147483647 : Int32)) % ((x4 &&& (3 : Int32)) + (1 : Int32)))), .val (.ref b6), .val (.int ((own_i2b (own_i2b (own_pick (own_ix x4 x5) x0 x1 x2 x3))) &&& 255)), .val (.int x3), .unset]) rfl kk) ?_
          show own_Fin _ _ _ _ _ _ _ (T8.setTop (mkF m 107 #[.val (.int x0), .val (.int x1), .val (.int x2), .val (.int x3), .val (.int x4), .val (.int x5), .val (.ref b1), .val (.int ((x4 &&& (3 : Int32)) + (1 : Int32))), .val (.int ((x5 &&& (2147483647 : Int32)) % ((x4 &&& (3 : Int32)) + (1 : Int32)))), .val (.ref b6), .val (.int ((own_i2b (own_i2b (own_pick (own_ix x4 x5) x0 x1 x2 x3))) &&& 255)), .val (.int x3), .unset] []))
          simp only [own_m0_107a, if_neg c71, if_neg c83, if_neg c95] at k9 ⊢
          exact k9
  show own_Fin _ _ _ _ _ _ _ (T8.setTop (mkF m 107 #[.val (.int x0), .val (.int x1), .val (.int x2), .val (.int x3), .val (.int x4), .val (.int x5), .val (.ref b1), .val (.int ((x4 &&& (3 : Int32)) + (1 : Int32))), .val (.int ((x5 &&& (2147483647 : Int32)) % ((x4 &&& (3 : Int32)) + (1 : Int32)))), .val (.ref b6), .val (.int ((own_i2b (own_i2b (own_pick (own_ix x4 x5) x0 x1 x2 x3))) &&& 255)), .val (.int (own_m0_107a x5 x4 x0 x1 x2 x3)), .unset] []))
  refine own_of (fun _ kk => XS.iload X8.here hx rfl (hb hby at_107) rfl kk) ?_
  show own_Fin _ _ _ _ _ _ _ (T8.setTop (mkF m 109 #[.val (.int x0), .val (.int x1), .val (.int x2), .val (.int x3), .val (.int x4), .val (.int x5), .val (.ref b1), .val (.int ((x4 &&& (3 : Int32)) + (1 : Int32))), .val (.int ((x5 &&& (2147483647 : Int32)) % ((x4 &&& (3 : Int32)) + (1 : Int32)))), .val (.ref b6), .val (.int ((own_i2b (own_i2b (own_pick (own_ix x4 x5) x0 x1 x2 x3))) &&& 255)), .val (.int (own_m0_107a x5 x4 x0 x1 x2 x3)), .unset] [(.int (own_m0_107a x5 x4 x0 x1 x2 x3))]))
  refine own_callP X8 hx hZ hown (hw _ (List.mem_of_getElem? (i := 33) rfl)) (hw _ (List.mem_of_getElem? (i := 34) rfl)) (hw _ (List.mem_of_getElem? (i := 35) rfl)) (hw _ (List.mem_of_getElem? (i := 36) rfl)) (by decide) e8 (argsL := [(.int (own_m0_107a x5 x4 x0 x1 x2 x3))]) (rv := (.int (own_f7 (own_m0_107a x5 x4 x0 x1 x2 x3)))) (met7 l Z a0 hw (own_m0_107a x5 x4 x0 x1 x2 x3) h7) (W := 0) (by decide) (by decide) (by decide) (by decide) (by rw [hml]; rfl) pd_1 rfl (rest := []) rfl (Nat.le_of_eq rfl) (hb hby at_109) ?_
  intro T10 X10 e10
  show own_Fin _ _ _ _ _ _ _ (T10.setTop (mkF m 112 #[.val (.int x0), .val (.int x1), .val (.int x2), .val (.int x3), .val (.int x4), .val (.int x5), .val (.ref b1), .val (.int ((x4 &&& (3 : Int32)) + (1 : Int32))), .val (.int ((x5 &&& (2147483647 : Int32)) % ((x4 &&& (3 : Int32)) + (1 : Int32)))), .val (.ref b6), .val (.int ((own_i2b (own_i2b (own_pick (own_ix x4 x5) x0 x1 x2 x3))) &&& 255)), .val (.int (own_m0_107a x5 x4 x0 x1 x2 x3)), .unset] [(.int (own_f7 (own_m0_107a x5 x4 x0 x1 x2 x3)))]))
  refine own_of (fun _ kk => XS.istore X10.here hx rfl (hb hby at_112) rfl (l' := #[.val (.int x0), .val (.int x1), .val (.int x2), .val (.int x3), .val (.int x4), .val (.int x5), .val (.ref b1), .val (.int ((x4 &&& (3 : Int32)) + (1 : Int32))), .val (.int ((x5 &&& (2147483647 : Int32)) % ((x4 &&& (3 : Int32)) + (1 : Int32)))), .val (.ref b6), .val (.int ((own_i2b (own_i2b (own_pick (own_ix x4 x5) x0 x1 x2 x3))) &&& 255)), .val (.int (own_m0_107a x5 x4 x0 x1 x2 x3)), .val (.int (own_f7 (own_m0_107a x5 x4 x0 x1 x2 x3)))]) rfl kk) ?_
  show own_Fin _ _ _ _ _ _ _ (T10.setTop (mkF m 114 #[.val (.int x0), .val (.int x1), .val (.int x2), .val (.int x3), .val (.int x4), .val (.int x5), .val (.ref b1), .val (.int ((x4 &&& (3 : Int32)) + (1 : Int32))), .val (.int ((x5 &&& (2147483647 : Int32)) % ((x4 &&& (3 : Int32)) + (1 : Int32)))), .val (.ref b6), .val (.int ((own_i2b (own_i2b (own_pick (own_ix x4 x5) x0 x1 x2 x3))) &&& 255)), .val (.int (own_m0_107a x5 x4 x0 x1 x2 x3)), .val (.int (own_f7 (own_m0_107a x5 x4 x0 x1 x2 x3)))] []))
  refine own_of (fun _ kk => XS.iload X10.here hx rfl (hb hby at_114) rfl kk) ?_
  show own_Fin _ _ _ _ _ _ _ (T10.setTop (mkF m 116 #[.val (.int x0), .val (.int x1), .val (.int x2), .val (.int x3), .val (.int x4), .val (.int x5), .val (.ref b1), .val (.int ((x4 &&& (3 : Int32)) + (1 : Int32))), .val (.int ((x5 &&& (2147483647 : Int32)) % ((x4 &&& (3 : Int32)) + (1 : Int32)))), .val (.ref b6), .val (.int ((own_i2b (own_i2b (own_pick (own_ix x4 x5) x0 x1 x2 x3))) &&& 255)), .val (.int (own_m0_107a x5 x4 x0 x1 x2 x3)), .val (.int (own_f7 (own_m0_107a x5 x4 x0 x1 x2 x3)))] [(.int ((own_i2b (own_i2b (own_pick (own_ix x4 x5) x0 x1 x2 x3))) &&& 255))]))
  refine own_of (fun _ kk => XS.iload X10.here hx rfl (hb hby at_116) rfl kk) ?_
  show own_Fin _ _ _ _ _ _ _ (T10.setTop (mkF m 118 #[.val (.int x0), .val (.int x1), .val (.int x2), .val (.int x3), .val (.int x4), .val (.int x5), .val (.ref b1), .val (.int ((x4 &&& (3 : Int32)) + (1 : Int32))), .val (.int ((x5 &&& (2147483647 : Int32)) % ((x4 &&& (3 : Int32)) + (1 : Int32)))), .val (.ref b6), .val (.int ((own_i2b (own_i2b (own_pick (own_ix x4 x5) x0 x1 x2 x3))) &&& 255)), .val (.int (own_m0_107a x5 x4 x0 x1 x2 x3)), .val (.int (own_f7 (own_m0_107a x5 x4 x0 x1 x2 x3)))] [(.int (own_f7 (own_m0_107a x5 x4 x0 x1 x2 x3))), (.int ((own_i2b (own_i2b (own_pick (own_ix x4 x5) x0 x1 x2 x3))) &&& 255))]))
  refine own_of (fun _ kk => XS.icmpNo X10.here hx rfl (hb hby at_118) rfl (teq (own_f (own_pick (own_ix x4 x5) x0 x1 x2 x3))).2 kk) ?_
  show own_Fin _ _ _ _ _ _ _ (T10.setTop (mkF m 121 #[.val (.int x0), .val (.int x1), .val (.int x2), .val (.int x3), .val (.int x4), .val (.int x5), .val (.ref b1), .val (.int ((x4 &&& (3 : Int32)) + (1 : Int32))), .val (.int ((x5 &&& (2147483647 : Int32)) % ((x4 &&& (3 : Int32)) + (1 : Int32)))), .val (.ref b6), .val (.int ((own_i2b (own_i2b (own_pick (own_ix x4 x5) x0 x1 x2 x3))) &&& 255)), .val (.int (own_m0_107a x5 x4 x0 x1 x2 x3)), .val (.int (own_f7 (own_m0_107a x5 x4 x0 x1 x2 x3)))] []))
  refine own_of (fun _ kk => XS.iload X10.here hx rfl (hb hby at_121) rfl kk) ?_
  show own_Fin _ _ _ _ _ _ _ (T10.setTop (mkF m 123 #[.val (.int x0), .val (.int x1), .val (.int x2), .val (.int x3), .val (.int x4), .val (.int x5), .val (.ref b1), .val (.int ((x4 &&& (3 : Int32)) + (1 : Int32))), .val (.int ((x5 &&& (2147483647 : Int32)) % ((x4 &&& (3 : Int32)) + (1 : Int32)))), .val (.ref b6), .val (.int ((own_i2b (own_i2b (own_pick (own_ix x4 x5) x0 x1 x2 x3))) &&& 255)), .val (.int (own_m0_107a x5 x4 x0 x1 x2 x3)), .val (.int (own_f7 (own_m0_107a x5 x4 x0 x1 x2 x3)))] [(.int ((own_i2b (own_i2b (own_pick (own_ix x4 x5) x0 x1 x2 x3))) &&& 255))]))
  refine own_of (fun _ kk => XS.ifNo X10.here hx rfl (hb hby at_123) rfl ((if0 _ _).trans (flt (own_got _).1).1) kk) ?_
  show own_Fin _ _ _ _ _ _ _ (T10.setTop (mkF m 126 #[.val (.int x0), .val (.int x1), .val (.int x2), .val (.int x3), .val (.int x4), .val (.int x5), .val (.ref b1), .val (.int ((x4 &&& (3 : Int32)) + (1 : Int32))), .val (.int ((x5 &&& (2147483647 : Int32)) % ((x4 &&& (3 : Int32)) + (1 : Int32)))), .val (.ref b6), .val (.int ((own_i2b (own_i2b (own_pick (own_ix x4 x5) x0 x1 x2 x3))) &&& 255)), .val (.int (own_m0_107a x5 x4 x0 x1 x2 x3)), .val (.int (own_f7 (own_m0_107a x5 x4 x0 x1 x2 x3)))] []))
  refine own_of (fun _ kk => XS.iload X10.here hx rfl (hb hby at_126) rfl kk) ?_
  show own_Fin _ _ _ _ _ _ _ (T10.setTop (mkF m 128 #[.val (.int x0), .val (.int x1), .val (.int x2), .val (.int x3), .val (.int x4), .val (.int x5), .val (.ref b1), .val (.int ((x4 &&& (3 : Int32)) + (1 : Int32))), .val (.int ((x5 &&& (2147483647 : Int32)) % ((x4 &&& (3 : Int32)) + (1 : Int32)))), .val (.ref b6), .val (.int ((own_i2b (own_i2b (own_pick (own_ix x4 x5) x0 x1 x2 x3))) &&& 255)), .val (.int (own_m0_107a x5 x4 x0 x1 x2 x3)), .val (.int (own_f7 (own_m0_107a x5 x4 x0 x1 x2 x3)))] [(.int ((own_i2b (own_i2b (own_pick (own_ix x4 x5) x0 x1 x2 x3))) &&& 255))]))
  refine own_of (fun _ kk => XS.sipush X10.here hx rfl (hb hby at_128) kk) ?_
  show own_Fin _ _ _ _ _ _ _ (T10.setTop (mkF m 131 #[.val (.int x0), .val (.int x1), .val (.int x2), .val (.int x3), .val (.int x4), .val (.int x5), .val (.ref b1), .val (.int ((x4 &&& (3 : Int32)) + (1 : Int32))), .val (.int ((x5 &&& (2147483647 : Int32)) % ((x4 &&& (3 : Int32)) + (1 : Int32)))), .val (.ref b6), .val (.int ((own_i2b (own_i2b (own_pick (own_ix x4 x5) x0 x1 x2 x3))) &&& 255)), .val (.int (own_m0_107a x5 x4 x0 x1 x2 x3)), .val (.int (own_f7 (own_m0_107a x5 x4 x0 x1 x2 x3)))] [(.int (256 : Int32)), (.int ((own_i2b (own_i2b (own_pick (own_ix x4 x5) x0 x1 x2 x3))) &&& 255))]))
  refine own_of (fun _ kk => XS.icmpNo X10.here hx rfl (hb hby at_131) rfl (tlt (own_got _).2).2.1 kk) ?_
  show own_Fin _ _ _ _ _ _ _ (T10.setTop (mkF m 134 #[.val (.int x0), .val (.int x1), .val (.int x2), .val (.int x3), .val (.int x4), .val (.int x5), .val (.ref b1), .val (.int ((x4 &&& (3 : Int32)) + (1 : Int32))), .val (.int ((x5 &&& (2147483647 : Int32)) % ((x4 &&& (3 : Int32)) + (1 : Int32)))), .val (.ref b6), .val (.int ((own_i2b (own_i2b (own_pick (own_ix x4 x5) x0 x1 x2 x3))) &&& 255)), .val (.int (own_m0_107a x5 x4 x0 x1 x2 x3)), .val (.int (own_f7 (own_m0_107a x5 x4 x0 x1 x2 x3)))] []))
  refine own_of (fun _ kk => XS.iconst X10.here hx rfl (hb hby at_134) kk) ?_
  show own_Fin _ _ _ _ _ _ _ (T10.setTop (mkF m 135 #[.val (.int x0), .val (.int x1), .val (.int x2), .val (.int x3), .val (.int x4), .val (.int x5), .val (.ref b1), .val (.int ((x4 &&& (3 : Int32)) + (1 : Int32))), .val (.int ((x5 &&& (2147483647 : Int32)) % ((x4 &&& (3 : Int32)) + (1 : Int32)))), .val (.ref b6), .val (.int ((own_i2b (own_i2b (own_pick (own_ix x4 x5) x0 x1 x2 x3))) &&& 255)), .val (.int (own_m0_107a x5 x4 x0 x1 x2 x3)), .val (.int (own_f7 (own_m0_107a x5 x4 x0 x1 x2 x3)))] [(.int (1 : Int32))]))
  refine own_of (fun _ kk => XS.goto X10.here hx rfl (pc0 := 135) (pc' := 139) rfl (hb hby at_135) (by decide) (by decide) kk) ?_
  show own_Fin _ _ _ _ _ _ _ (T10.setTop (mkF m 139 #[.val (.int x0), .val (.int x1), .val (.int x2), .val (.int x3), .val (.int x4), .val (.int x5), .val (.ref b1), .val (.int ((x4 &&& (3 : Int32)) + (1 : Int32))), .val (.int ((x5 &&& (2147483647 : Int32)) % ((x4 &&& (3 : Int32)) + (1 : Int32)))), .val (.ref b6), .val (.int ((own_i2b (own_i2b (own_pick (own_ix x4 x5) x0 x1 x2 x3))) &&& 255)), .val (.int (own_m0_107a x5 x4 x0 x1 x2 x3)), .val (.int (own_f7 (own_m0_107a x5 x4 x0 x1 x2 x3)))] [(.int (1 : Int32))]))
  exact own_retN X10 hx hlk e10 (t := .boolean) hret (by simp) (hb hby at_139) (by decide) (by decide) (z' := (1 : Int32)) (by decide) ⟨rfl, N8⟩
set_option maxRecDepth 65536 in
set_option maxHeartbeats 40000000 in
theorem comes_1 {Post : Tables → Env → Array Value → State → Outcome → State → Prop} (hpost : ∀ tb e args s v u, (limb_1_1.after args s (.returned v) u = true ∧ limb_1_2.after args s (.returned v) u = true ∧ True) → FrameEnd s (.returned v) u (Jvm.fieldLocs frame_1_writes args s ++ Jvm.arrayLocs frame_1_arrays args s ++ Jvm.staticLocs frame_1_statics s) 16 128 → Post tb e args s (.returned v) u) :
    ArmFor flags0 classFile x code maxLocals ret World_1 tables_1 room_1 Calls_1 rest_1 Pre_1 Post := by
  intro l hfl _ _ p e ha hc hk s m args below hf hA hF happ hP
  obtain ⟨hcalls, hrest, hpre⟩ := hP
  obtain ⟨-, -, -, hnamed, -, -, -, hat⟩ := (Spec.applies_iff hf).mp happ
  obtain ⟨hg, hn⟩ := and_e (Cond.before_iff.mp (show (Jvm.Cond.and given_1 narrow_1).before args s = true from hpre))
  obtain ⟨g1, g2⟩ := and_e hg
  obtain ⟨g3, g4⟩ := and_e g2
  obtain ⟨g5, g6⟩ := and_e g4
  obtain ⟨g7, g8⟩ := and_e g6
  obtain ⟨g9, g10⟩ := and_e g8
  obtain ⟨g11, g12⟩ := and_e g10
  obtain ⟨w0, w1, w2, w3, w4, w5, rfl⟩ : ∃ w0 w1 w2 w3 w4 w5 : Value, args = #[w0, w1, w2, w3, w4, w5] := by
    have hs : args.size = 6 := by simpa [Cond.value, given_1] using g1
    obtain ⟨L⟩ := args
    match L, hs with
    | [w0, w1, w2, w3, w4, w5], _ => exact ⟨w0, w1, w2, w3, w4, w5, rfl⟩
  have hw := fun d (hd : d ∈ tables_1) => atoms_spec (ws := Jvm.Cond.code x code maxLocals ret :: tables_1) hat d (List.mem_cons_of_mem _ hd)
  obtain ⟨i0, ei0⟩ := is_v g3
  obtain rfl : w0 = (.int i0) := Option.some.inj ei0
  obtain ⟨i1, ei1⟩ := is_v g5
  obtain rfl : w1 = (.int i1) := Option.some.inj ei1
  obtain ⟨i2, ei2⟩ := is_v g7
  obtain rfl : w2 = (.int i2) := Option.some.inj ei2
  obtain ⟨i3, ei3⟩ := is_v g9
  obtain rfl : w3 = (.int i3) := Option.some.inj ei3
  obtain ⟨i4, ei4⟩ := is_v g11
  obtain rfl : w4 = (.int i4) := Option.some.inj ei4
  obtain ⟨i5, ei5⟩ := is_v g12
  obtain rfl : w5 = (.int i5) := Option.some.inj ei5
  obtain ⟨n, o, h1, h2, h3, _, L, rfl, ⟨rfl, N⟩, hq⟩ := own_law l s _ hw i0 i1 i2 i3 i4 i5 s.heap s.heap.size (Nat.le_refl _) tables_1 p e ha hc hk s m _ below hf ((Spec.applies_iff_loose hf).mp happ).1 ⟨rfl, State.Warmed39.refl s, rfl⟩ trivial
  refine ⟨n, _, h1, h2, h3, hpost _ _ _ _ _ _ ⟨Cond.after_iff.mpr rfl, Cond.after_iff.mpr (eq_i res_at (Term.int_eval (1)) rfl), trivial⟩ ⟨hq.1, hq.2.1, (hq.2.2.sift fun y hy => Or.inr (N y hy)).mono (by decide) (by decide)⟩⟩
theorem main_1_1 : Claimed_1_1 := comes_1 fun _ _ _ _ _ _ h hF => ⟨h.1, hF⟩
theorem main_1_2 : Claimed_1_2 := comes_1 fun _ _ _ _ _ _ h hF => ⟨h.2.1, hF⟩
end Jvm.Pilot.@@N@@
namespace Jvm.Pilot.@@N@@
open Jvm Jvm.ClassFile Sem Op Lib Jvm.Free Jvm.Stand Jvm.Pilot.@@N@@.Jvm.D
/-! MADE BY PROGRAM (witnessworld.py) out of the Statement's table words and the real class files: 13 classes; the members and pool entries that the words name. The judged class is class 1, her method 2. -/
namespace start1
open Jvm.ClassFile
def u (s : String) : CpInfo := .utf8 (stringToUtf16 s)
/-- a pool by its gaps: so many unusable entries, then the entry; so many at the end -/
def gap : Nat → List CpInfo → List CpInfo
  | 0, r => r
  | n + 1, r => .unusable :: gap n r
def poolList (es : List (Nat × CpInfo)) (last : Nat) : List CpInfo := es.foldr (fun e r => gap e.1 (e.2 :: r)) (gap last [])
def pool (es : List (Nat × CpInfo)) (last : Nat) : Array CpInfo := ⟨poolList es last⟩
def fileOf (pool : Array CpInfo) (this : Nat) (attrs : Array Attribute := #[]) (ms : Array MethodInfo := #[]) (fl : Nat := 33) (sup : Nat := 0) (ifs : Array Nat := #[]) (fds : Array FieldInfo := #[]) : ClassFile where
  minorVersion := 0
  majorVersion := 65
  constantPool := pool
  accessFlags := fl
  thisClass := this
  superClass := sup
  interfaces := ifs
  fields := fds
  methods := ms
  attributes := attrs
def plain (name : String) (sup : Option ClassId) : Class where
  name := name
  kind := .ordinary
  loader := none
  accessFlags := 33
  super := sup
  interfaces := #[]
  cf := none
  fields := #[]
  methods := #[]
  instanceTypes := #[]
  staticTypes := #[]
  resolved := #[]
  callSites := []
  init := .initialized
  statics := none
  mirror := none

def pool0 : Array CpInfo := pool [(5, u "<init>"), (0, u "()V"), (1, .class_ 10), (1, u "java/lang/Object")] 113

def k0c0 : Code := { maxStack := 0, maxLocals := 1, code := object_method_1_code, exceptionTable := #[], attributes := #[] }
def k0m0 : Method := { name := "<init>", desc := "()V", sig := { parameters := [], returnType := none }, accessFlags := 1, code := some k0c0 }
/-- java/lang/Object -/
def k0 : Class := { plain "java/lang/Object" none with
  accessFlags := 33
  interfaces := #[]
  cf := some (fileOf pool0 8 #[] #[{ accessFlags := 1, nameIndex := 5, descriptorIndex := 6, attributes := #[] }] 33 0 #[] #[])
  fields := #[]
  methods := #[k0m0]
  instanceTypes := #[]
  staticTypes := #[]
  resolved := Array.replicate 124 none
  statics := none }

def pool1 : Array CpInfo := pool [(2, .class_ 4), (1, u "java/lang/Object"), (0, u "<init>"), (0, u "()V"), (0, .integer 2147483647), (0, .class_ 9), (0, u "com/example/needle_in_text/needleintext/text/ByteText"), (0, .methodref 8 11), (0, .nameAndType 5 12), (0, u "([BI)V"), (0, .methodref 8 14), (0, .nameAndType 15 16), (0, u "symbolAt"), (0, u "(I)I"), (0, .methodref 18 19), (0, .class_ 20), (0, .nameAndType 21 16), (0, u "com/example/needle_in_text/needleintext/text/ByteTextSymbolAtPinLaw"), (0, u "unsignedOf"), (3, u "law"), (0, u "(IIIIII)Z")] 4

def k1m0 : Method := { name := "<init>", desc := "()V", sig := { parameters := [], returnType := none }, accessFlags := 1, code := none }
def k1c1 : Code := { maxStack := 2, maxLocals := 2, code := method_2_code, exceptionTable := #[], attributes := #[] }
def k1m1 : Method := { name := "unsignedOf", desc := "(I)I", sig := { parameters := [.int], returnType := some .int }, accessFlags := 10, code := some k1c1 }
def k1c2 : Code := { maxStack := 4, maxLocals := 13, code := code, exceptionTable := #[], attributes := #[] }
def k1m2 : Method := { name := "law", desc := "(IIIIII)Z", sig := { parameters := [.int, .int, .int, .int, .int, .int], returnType := some .boolean }, accessFlags := 9, code := some k1c2 }
/-- com/example/needle_in_text/needleintext/text/ByteTextSymbolAtPinLaw -/
def k1 : Class := { plain "com/example/needle_in_text/needleintext/text/ByteTextSymbolAtPinLaw" (some 0) with
  accessFlags := 49
  interfaces := #[]
  cf := some (fileOf pool1 18 #[] #[{ accessFlags := 1, nameIndex := 5, descriptorIndex := 6, attributes := #[] }, { accessFlags := 10, nameIndex := 21, descriptorIndex := 16, attributes := #[] }, { accessFlags := 9, nameIndex := 25, descriptorIndex := 26, attributes := #[] }] 49 2 #[] #[])
  fields := #[]
  methods := #[k1m0, k1m1, k1m2]
  instanceTypes := #[]
  staticTypes := #[]
  resolved := Array.replicate 31 none
  statics := none }

def pool2 : Array CpInfo := pool [(31, .class_ 32), (0, u "com/example/needle_in_text/needleintext/text/Text"), (0, .class_ 34), (0, u "java/lang/Object")] 22

/-- com/example/needle_in_text/needleintext/text/Text -/
def k2 : Class := { plain "com/example/needle_in_text/needleintext/text/Text" (some 0) with
  accessFlags := 1537
  interfaces := #[]
  cf := some (fileOf pool2 31 #[] #[] 1537 33 #[] #[])
  fields := #[]
  methods := #[]
  instanceTypes := #[]
  staticTypes := #[]
  resolved := Array.replicate 57 none
  statics := none }

def pool3 : Array CpInfo := pool [(27, .class_ 28), (0, u "com/example/needle_in_text/needleintext/text/Lanes"), (0, .class_ 30), (0, u "java/lang/Object"), (0, u "LANES"), (0, u "I")] 24

/-- com/example/needle_in_text/needleintext/text/Lanes -/
def k3 : Class := { plain "com/example/needle_in_text/needleintext/text/Lanes" (some 0) with
  accessFlags := 1537
  interfaces := #[]
  cf := some (fileOf pool3 27 #[] #[] 1537 29 #[] #[{ accessFlags := 25, nameIndex := 31, descriptorIndex := 32, attributes := #[] }])
  fields := #[{ name := "LANES", type := .int, accessFlags := 25, slot := 0, constantValue := 0 }]
  methods := #[]
  instanceTypes := #[]
  staticTypes := #[.int]
  resolved := Array.replicate 57 none
  statics := none }

def pool4 : Array CpInfo := pool [(1, .methodref 2 3), (0, .class_ 4), (0, .nameAndType 5 6), (0, u "java/lang/Object"), (0, u "<init>"), (0, u "()V"), (0, .methodref 8 9), (0, .class_ 10), (0, .nameAndType 11 12), (0, u "com/example/needle_in_text/needleintext/text/ByteText"), (0, u "view"), (0, u "([BI)V"), (0, .fieldref 8 14), (0, .nameAndType 15 16), (0, u "bytes"), (0, u "[B"), (0, .fieldref 8 18), (0, .nameAndType 19 20), (0, u "length"), (0, u "I"), (0, .methodref 22 23), (0, .class_ 24), (0, .nameAndType 25 26), (0, u "java/util/Objects"), (0, u "checkIndex"), (0, u "(II)I"), (10, .class_ 38), (0, u "com/example/needle_in_text/needleintext/text/Lanes"), (6, u "WORDS"), (0, u "Ljava/lang/invoke/VarHandle;"), (20, .class_ 68), (0, u "com/example/needle_in_text/needleintext/text/Text"), (0, u "ALPHABET_SIZE"), (5, u "symbolAt"), (0, u "(I)I")] 19

def k4c0 : Code := { maxStack := 3, maxLocals := 3, code := prog_61_method_1_code, exceptionTable := #[], attributes := #[] }
def k4m0 : Method := { name := "<init>", desc := "([BI)V", sig := { parameters := [(.array .byte), .int], returnType := none }, accessFlags := 0, code := some k4c0 }
def k4c1 : Code := { maxStack := 2, maxLocals := 3, code := prog_61_method_2_code, exceptionTable := #[], attributes := #[] }
def k4m1 : Method := { name := "view", desc := "([BI)V", sig := { parameters := [(.array .byte), .int], returnType := none }, accessFlags := 0, code := some k4c1 }
def k4c2 : Code := { maxStack := 2, maxLocals := 2, code := prog_61_method_4_code, exceptionTable := #[], attributes := #[] }
def k4m2 : Method := { name := "symbolAt", desc := "(I)I", sig := { parameters := [.int], returnType := some .int }, accessFlags := 1, code := some k4c2 }
/-- com/example/needle_in_text/needleintext/text/ByteText -/
def k4 : Class := { plain "com/example/needle_in_text/needleintext/text/ByteText" (some 0) with
  accessFlags := 48
  interfaces := #[2, 3]
  cf := some (fileOf pool4 8 #[] #[{ accessFlags := 0, nameIndex := 5, descriptorIndex := 12, attributes := #[] }, { accessFlags := 0, nameIndex := 11, descriptorIndex := 12, attributes := #[] }, { accessFlags := 1, nameIndex := 75, descriptorIndex := 76, attributes := #[] }] 48 2 #[67, 37] #[{ accessFlags := 26, nameIndex := 69, descriptorIndex := 20, attributes := #[] }, { accessFlags := 24, nameIndex := 45, descriptorIndex := 46, attributes := #[] }, { accessFlags := 2, nameIndex := 15, descriptorIndex := 16, attributes := #[] }, { accessFlags := 2, nameIndex := 19, descriptorIndex := 20, attributes := #[] }])
  fields := #[{ name := "ALPHABET_SIZE", type := .int, accessFlags := 26, slot := 0, constantValue := 0 }, { name := "WORDS", type := (.object "java/lang/invoke/VarHandle"), accessFlags := 24, slot := 1, constantValue := 0 }, { name := "bytes", type := (.array .byte), accessFlags := 2, slot := 0, constantValue := 0 }, { name := "length", type := .int, accessFlags := 2, slot := 1, constantValue := 0 }]
  methods := #[k4m0, k4m1, k4m2]
  instanceTypes := #[(.array .byte), .int]
  staticTypes := #[.int, (.object "java/lang/invoke/VarHandle")]
  resolved := Array.replicate 96 none
  statics := none }

def pool5 : Array CpInfo := pool [(2, .class_ 4), (1, u "java/lang/Object"), (0, u "<init>"), (0, u "()V"), (35, .class_ 44), (1, u "java/util/Objects"), (60, .methodref 106 107), (0, .class_ 108), (0, .nameAndType 109 110), (0, u "jdk/internal/util/Preconditions"), (0, u "checkIndex"), (0, u "(IILjava/util/function/BiFunction;)I"), (60, u "(II)I")] 12

def k5m0 : Method := { name := "<init>", desc := "()V", sig := { parameters := [], returnType := none }, accessFlags := 2, code := none }
def k5c1 : Code := { maxStack := 3, maxLocals := 2, code := jdk_31_method_17_code, exceptionTable := #[], attributes := #[] }
def k5m1 : Method := { name := "checkIndex", desc := "(II)I", sig := { parameters := [.int, .int], returnType := some .int }, accessFlags := 9, code := some k5c1 }
/-- java/util/Objects -/
def k5 : Class := { plain "java/util/Objects" (some 0) with
  accessFlags := 49
  interfaces := #[]
  cf := some (fileOf pool5 42 #[] #[{ accessFlags := 2, nameIndex := 5, descriptorIndex := 6, attributes := #[] }, { accessFlags := 9, nameIndex := 109, descriptorIndex := 171, attributes := #[] }] 49 2 #[] #[])
  fields := #[]
  methods := #[k5m0, k5m1]
  instanceTypes := #[]
  staticTypes := #[]
  resolved := Array.replicate 184 none
  statics := none }

def pool6 : Array CpInfo := pool [(2, .class_ 4), (1, u "java/lang/Object"), (0, u "<init>"), (0, u "()V"), (17, .class_ 26), (1, u "jdk/internal/util/Preconditions"), (6, u "checkIndex"), (21, .class_ 56), (0, u "jdk/internal/util/Preconditions$4"), (57, .class_ 115), (0, u "jdk/internal/util/Preconditions$1"), (7, u "SIOOBE_FORMATTER"), (0, u "Ljava/util/function/BiFunction;"), (0, .class_ 126), (0, u "jdk/internal/util/Preconditions$2"), (3, u "AIOOBE_FORMATTER"), (0, .class_ 132), (0, u "jdk/internal/util/Preconditions$3"), (3, u "IOOBE_FORMATTER"), (41, u "(IILjava/util/function/BiFunction;)I")] 15

def k6m0 : Method := { name := "<init>", desc := "()V", sig := { parameters := [], returnType := none }, accessFlags := 1, code := none }
def k6c1 : Code := { maxStack := 3, maxLocals := 3, code := jdk_41_method_11_code, exceptionTable := #[], attributes := #[] }
def k6m1 : Method := { name := "checkIndex", desc := "(IILjava/util/function/BiFunction;)I", sig := { parameters := [.int, .int, (.object "java/util/function/BiFunction")], returnType := some .int }, accessFlags := 9, code := some k6c1 }
/-- jdk/internal/util/Preconditions -/
def k6 : Class := { plain "jdk/internal/util/Preconditions" (some 0) with
  accessFlags := 33
  interfaces := #[]
  cf := some (fileOf pool6 24 #[.nestMembers #[55, 131, 125, 114]] #[{ accessFlags := 1, nameIndex := 5, descriptorIndex := 6, attributes := #[] }, { accessFlags := 9, nameIndex := 33, descriptorIndex := 178, attributes := #[] }] 33 2 #[] #[{ accessFlags := 25, nameIndex := 123, descriptorIndex := 124, attributes := #[] }, { accessFlags := 25, nameIndex := 130, descriptorIndex := 124, attributes := #[] }, { accessFlags := 25, nameIndex := 136, descriptorIndex := 124, attributes := #[] }])
  fields := #[{ name := "SIOOBE_FORMATTER", type := (.object "java/util/function/BiFunction"), accessFlags := 25, slot := 0, constantValue := 0 }, { name := "AIOOBE_FORMATTER", type := (.object "java/util/function/BiFunction"), accessFlags := 25, slot := 1, constantValue := 0 }, { name := "IOOBE_FORMATTER", type := (.object "java/util/function/BiFunction"), accessFlags := 25, slot := 2, constantValue := 0 }]
  methods := #[k6m0, k6m1]
  instanceTypes := #[]
  staticTypes := #[(.object "java/util/function/BiFunction"), (.object "java/util/function/BiFunction"), (.object "java/util/function/BiFunction")]
  resolved := Array.replicate 194 none
  statics := none }

def pool7 : Array CpInfo := pool [(1, u "java/lang/Cloneable"), (0, .class_ 1), (0, u "java/lang/Object"), (0, .class_ 3)] 3

/-- java/lang/Cloneable -/
def k7 : Class := { plain "java/lang/Cloneable" (some 0) with
  accessFlags := 1537
  interfaces := #[]
  cf := some (fileOf pool7 2 #[] #[] 1537 4 #[] #[])
  fields := #[]
  methods := #[]
  instanceTypes := #[]
  staticTypes := #[]
  resolved := Array.replicate 8 none
  statics := none }

def pool8 : Array CpInfo := pool [(1, u "java/io/Serializable"), (0, .class_ 1), (0, u "java/lang/Object"), (0, .class_ 3)] 3

/-- java/io/Serializable -/
def k8 : Class := { plain "java/io/Serializable" (some 0) with
  accessFlags := 1537
  interfaces := #[]
  cf := some (fileOf pool8 2 #[] #[] 1537 4 #[] #[])
  fields := #[]
  methods := #[]
  instanceTypes := #[]
  staticTypes := #[]
  resolved := Array.replicate 8 none
  statics := none }

/-- the primitive byte -/
def k9 : Class := { plain "byte" none with kind := .primitive 'B', accessFlags := 0x411 }
/-- [B -/
def k10 : Class := { plain "[B" (some 0) with kind := .array 9 .byte, interfaces := #[7, 8], accessFlags := 1041 }

/-- the primitive int -/
def k11 : Class := { plain "int" none with kind := .primitive 'I', accessFlags := 0x411 }
/-- [I -/
def k12 : Class := { plain "[I" (some 0) with kind := .array 11 .int, interfaces := #[7, 8], accessFlags := 1041 }

def heap : Heap := #[]
def classes : Array Class := #[k0, k1, k2, k3, k4, k5, k6, k7, k8, k9, k10, k11, k12]
def interned : List (Array UInt16 × Addr) := []
def slotsUsed : Nat := 0
def theMethod : MethodId := ⟨1, 2⟩
def args0 : Array Value := #[.int 5, .int 7, .int 1, .int 2, .int 3, .int 4]
def aboutOver (below : List Frame) : State where
  vm := { classes := classes, interned := interned.toArray }
  heap := heap
  slotsUsed := slotsUsed
  threads := #[{ frames := .invoking theMethod args0 :: below }]
def below0 : List Frame := [.native { method := ⟨0, 0⟩, args := #[] }]
def about1 : State := aboutOver below0
def p0 : Program := .bare "" "" ""
def e0 : Env := launch0.env 0 0 0
theorem w_frames : about1.frames = Frame.invoking theMethod args0 :: below0 := rfl
set_option maxRecDepth 65536 in
theorem w_args : argsFit about1.vm theMethod args0 = true := by decide +kernel
set_option maxRecDepth 65536 in
theorem w_heap : heapFits about1 = true := by decide +kernel
set_option maxRecDepth 65536 in
theorem w_runnable : about1.curStatus? = some .runnable := by decide +kernel
set_option maxRecDepth 65536 in
theorem w_alone : about1.alone = true := by decide +kernel
set_option maxRecDepth 65536 in
theorem w_named : about1.methodNamed? x = some theMethod := by decide +kernel
set_option maxRecDepth 65536 in
theorem w_hears : about1.hears theMethod below0 = true := by decide +kernel
set_option maxRecDepth 65536 in
theorem w_ripe : about1.ripe theMethod args0 below0 = true := by decide +kernel
theorem w_running : about1.status = .running := rfl
set_option maxRecDepth 65536 in
theorem w_room : about1.hasRoom e0.platform room_1 = true :=
  launch0.hasRoom_least _ room_1 (by decide +kernel) (by decide +kernel) (by decide +kernel) (by decide +kernel) (by decide +kernel) (by decide +kernel)
theorem allAtoms_all (ts : List Jvm.Cond) (a : Array Jvm.Value) (st : Jvm.State) : (allAtoms ts).before a st = ts.all (fun c => c.before a st) := by
  induction ts with
  | nil => rfl
  | cons c t ih =>
    show (Jvm.Cond.and c (allAtoms t)).before a st = _
    rw [Jvm.Cond.before_and, ih, List.all_cons]
def words1 : List Jvm.Cond := Jvm.Cond.code x code maxLocals ret :: tables_1
/-- a 'code' word, met by the world's own term for the bytes: nothing is compared byte by byte -/
theorem code_word {y : MethodName} {bytes : ByteArray} {mx : Nat} {rt : Option FieldType} {a : Array Value} {s : State} {m : MethodId} {meth : Method} {c : Code} (h1 : s.methodNamed? y = some m) (h2 : s.vm.method? m = some meth) (h3 : meth.code = some c) (h4 : c.code = bytes)
    (h5 : (c.maxLocals == mx && c.exceptionTable.isEmpty && decide (c.maxStack ≤ mostOperands) && decide (meth.sig.returnType = rt) && !meth.locks && decide (parseMethodDescriptor y.desc = some meth.sig)) = true) : (Jvm.Cond.code y bytes mx rt).before a s = true := by
  simp only [Bool.and_eq_true, beq_iff_eq, Bool.not_eq_true', decide_eq_true_eq] at h5
  obtain ⟨⟨⟨⟨⟨g1, g2⟩, g3⟩, g4⟩, g5⟩, g6⟩ := h5
  simp [Cond.before, Cond.holds, Cond.value, h1, h2, h3, h4, g1, g2, g3, g4, g5, g6]
def isCode : Jvm.Cond → Bool
  | .code _ _ _ _ => true
  | _ => false
theorem all_split {L : List Jvm.Cond} {P : Jvm.Cond → Bool} (h1 : L.all (fun c => isCode c || P c) = true) (h2 : ∀ c ∈ L.filter isCode, P c = true) : L.all P = true := by
  refine List.all_eq_true.mpr fun c hc => ?_
  have h := List.all_eq_true.mp h1 c hc
  rcases Bool.eq_false_or_eq_true (isCode c) with hi | hi
  · exact h2 c (List.mem_filter.mpr ⟨hc, hi⟩)
  · simpa [hi] using h
set_option maxRecDepth 65536 in
theorem w_c0 : (Jvm.Cond.code x code maxLocals ret).before args0 about1 = true := code_word (m := ⟨1, 2⟩) (meth := k1m2) (c := k1c2) (by decide +kernel) rfl rfl rfl (by decide +kernel)
set_option maxRecDepth 65536 in
theorem w_c1 : (Jvm.Cond.code ({ cls := "com/example/needle_in_text/needleintext/text/ByteText", name := "<init>", desc := "([BI)V" } : Jvm.MethodName) prog_61_method_1_code (3 : Nat) (Option.none : Option Jvm.ClassFile.FieldType)).before args0 about1 = true := code_word (m := ⟨4, 0⟩) (meth := k4m0) (c := k4c0) (by decide +kernel) rfl rfl rfl (by decide +kernel)
set_option maxRecDepth 65536 in
theorem w_c2 : (Jvm.Cond.code ({ cls := "java/lang/Object", name := "<init>", desc := "()V" } : Jvm.MethodName) object_method_1_code (1 : Nat) (Option.none : Option Jvm.ClassFile.FieldType)).before args0 about1 = true := code_word (m := ⟨0, 0⟩) (meth := k0m0) (c := k0c0) (by decide +kernel) rfl rfl rfl (by decide +kernel)
set_option maxRecDepth 65536 in
theorem w_c3 : (Jvm.Cond.code ({ cls := "com/example/needle_in_text/needleintext/text/ByteText", name := "view", desc := "([BI)V" } : Jvm.MethodName) prog_61_method_2_code (3 : Nat) (Option.none : Option Jvm.ClassFile.FieldType)).before args0 about1 = true := code_word (m := ⟨4, 1⟩) (meth := k4m1) (c := k4c1) (by decide +kernel) rfl rfl rfl (by decide +kernel)
set_option maxRecDepth 65536 in
theorem w_c4 : (Jvm.Cond.code ({ cls := "com/example/needle_in_text/needleintext/text/ByteText", name := "symbolAt", desc := "(I)I" } : Jvm.MethodName) prog_61_method_4_code (2 : Nat) (Option.some Jvm.ClassFile.FieldType.int)).before args0 about1 = true := code_word (m := ⟨4, 2⟩) (meth := k4m2) (c := k4c2) (by decide +kernel) rfl rfl rfl (by decide +kernel)
set_option maxRecDepth 65536 in
theorem w_c5 : (Jvm.Cond.code ({ cls := "java/util/Objects", name := "checkIndex", desc := "(II)I" } : Jvm.MethodName) jdk_31_method_17_code (2 : Nat) (Option.some Jvm.ClassFile.FieldType.int)).before args0 about1 = true := code_word (m := ⟨5, 1⟩) (meth := k5m1) (c := k5c1) (by decide +kernel) rfl rfl rfl (by decide +kernel)
set_option maxRecDepth 65536 in
theorem w_c6 : (Jvm.Cond.code ({ cls := "jdk/internal/util/Preconditions", name := "checkIndex", desc := "(IILjava/util/function/BiFunction;)I" } : Jvm.MethodName) jdk_41_method_11_code (3 : Nat) (Option.some Jvm.ClassFile.FieldType.int)).before args0 about1 = true := code_word (m := ⟨6, 1⟩) (meth := k6m1) (c := k6c1) (by decide +kernel) rfl rfl rfl (by decide +kernel)
set_option maxRecDepth 65536 in
theorem w_c7 : (Jvm.Cond.code ({ cls := "com/example/needle_in_text/needleintext/text/ByteTextSymbolAtPinLaw", name := "unsignedOf", desc := "(I)I" } : Jvm.MethodName) method_2_code (2 : Nat) (Option.some Jvm.ClassFile.FieldType.int)).before args0 about1 = true := code_word (m := ⟨1, 1⟩) (meth := k1m1) (c := k1c1) (by decide +kernel) rfl rfl rfl (by decide +kernel)
def codes1 : List Jvm.Cond := [Jvm.Cond.code x code maxLocals ret, Jvm.Cond.code ({ cls := "com/example/needle_in_text/needleintext/text/ByteText", name := "<init>", desc := "([BI)V" } : Jvm.MethodName) prog_61_method_1_code (3 : Nat) (Option.none : Option Jvm.ClassFile.FieldType), Jvm.Cond.code ({ cls := "java/lang/Object", name := "<init>", desc := "()V" } : Jvm.MethodName) object_method_1_code (1 : Nat) (Option.none : Option Jvm.ClassFile.FieldType), Jvm.Cond.code ({ cls := "com/example/needle_in_text/needleintext/text/ByteText", name := "view", desc := "([BI)V" } : Jvm.MethodName) prog_61_method_2_code (3 : Nat) (Option.none : Option Jvm.ClassFile.FieldType), Jvm.Cond.code ({ cls := "com/example/needle_in_text/needleintext/text/ByteText", name := "symbolAt", desc := "(I)I" } : Jvm.MethodName) prog_61_method_4_code (2 : Nat) (Option.some Jvm.ClassFile.FieldType.int), Jvm.Cond.code ({ cls := "java/util/Objects", name := "checkIndex", desc := "(II)I" } : Jvm.MethodName) jdk_31_method_17_code (2 : Nat) (Option.some Jvm.ClassFile.FieldType.int), Jvm.Cond.code ({ cls := "jdk/internal/util/Preconditions", name := "checkIndex", desc := "(IILjava/util/function/BiFunction;)I" } : Jvm.MethodName) jdk_41_method_11_code (3 : Nat) (Option.some Jvm.ClassFile.FieldType.int), Jvm.Cond.code ({ cls := "com/example/needle_in_text/needleintext/text/ByteTextSymbolAtPinLaw", name := "unsignedOf", desc := "(I)I" } : Jvm.MethodName) method_2_code (2 : Nat) (Option.some Jvm.ClassFile.FieldType.int)]
set_option maxRecDepth 65536 in
theorem codes_eq : words1.filter isCode = codes1 := rfl
theorem w_codes : ∀ c ∈ words1.filter isCode, c.before args0 about1 = true := by
  rw [codes_eq]
  intro c hc
  simp only [codes1, List.mem_cons, List.not_mem_nil, or_false] at hc
  rcases hc with rfl | rfl | rfl | rfl | rfl | rfl | rfl | rfl
  · exact w_c0
  · exact w_c1
  · exact w_c2
  · exact w_c3
  · exact w_c4
  · exact w_c5
  · exact w_c6
  · exact w_c7
set_option maxRecDepth 65536 in
theorem w_t1 : (words1.take 24).all (fun c => isCode c || c.before args0 about1) = true := by decide +kernel
set_option maxRecDepth 65536 in
theorem w_t2 : (words1.drop 24).all (fun c => isCode c || c.before args0 about1) = true := by decide +kernel
theorem w_tables : (allAtoms (Jvm.Cond.code x code maxLocals ret :: tables_1)).before args0 about1 = true := by
  rw [allAtoms_all]
  show words1.all (fun c => c.before args0 about1) = true
  refine all_split ?_ w_codes
  rw [← List.take_append_drop 24 words1, List.all_append, w_t1, w_t2]
  rfl
set_option maxRecDepth 65536 in
theorem w_case : (Jvm.Cond.and given_1 narrow_1).before args0 about1 = true := by decide +kernel
theorem w_applies : (headSpec (Jvm.Cond.code x code maxLocals ret :: tables_1) room_1).applies x e0.platform about1 = true :=
  (Spec.applies_iff w_frames).mpr ⟨w_running, w_runnable, w_alone, w_named, w_hears, w_ripe, w_room, w_tables⟩
theorem atStart : AtStart classFile x code maxLocals ret World_1 tables_1 room_1 Calls_1 rest_1 Pre_1 launch0 p0 e0 about1 theMethod args0 below0 :=
  ⟨lists_1, trivial, launch0.admits_env _ _ _, launch0.least_env, fairChoices_fair.cas, fairChoices_fair.clock, w_frames, w_args, w_heap, w_applies, trivial, trivial, w_case⟩
end start1
theorem witness_1 : WitnessClaimed_1 := ⟨start1.p0, start1.e0, start1.about1, start1.theMethod, start1.args0, start1.below0, start1.atStart⟩
end Jvm.Pilot.@@N@@
