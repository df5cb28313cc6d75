import JvmDerived
import JvmDerived.Pilot.@@N@@Statement
import JvmDerived.Pilot.@@N@@Code
set_option linter.unusedVariables false
set_option linter.unusedSimpArgs false
namespace Jvm.RoadKit
open Sem ClassFile Op Lib Jvm.Stand Jvm.Free Jvm.LawKit
section New
variable {p : Program} {l : Launch} {e : Env} {R : Room} {s : State} {m : MethodId} {args : Array Value} {below : List Frame} {meth : Method} {c : Code} {T : State} {locs : List Loc} {cells slots : Nat}
theorem retI (X : Stand p l e R s m args below meth c T locs cells slots) (hx : p.tables.exec = Jvm.exec) {pc : Nat} {Ls : Array Slot} {z : Int32} {rest : List Value} (hret : meth.sig.returnType = some .int) (hd : decode c.code pc = .ok (.ireturn, 1)) {fs : List Frame}
    (hl : ∀ (f : JFrame) (acts : List Action), f.method = m → f.locked = none → f.entered = [] → (doReturn e (T.setTop f) acts (some (.int z))).1 = T.setFrames fs) : Steps p.tables e below (T.setTop (mkF m pc Ls (.int z :: rest))) (T.setFrames fs) := by
  have hm' : T.vm.method? m = some meth := X.method'
  have hn : narrow .int (.int z) = .int z := rfl
  show Steps p.tables e below (T.setTop { method := m, pc := pc, locals := Ls, stack := _ :: rest, locked := none }) _
  jvm_step X.here [X.here.top, hx, hd, hm', hret, hn]
  first | (intro acts; rw [hl _ acts rfl rfl rfl]) | rw [hl _ _ rfl rfl rfl]
  exact Steps.refl _
end New
end Jvm.RoadKit
namespace Jvm.Pilot.@@N@@
open Jvm Jvm.ClassFile Sem Op Lib Jvm.Free Jvm.Stand Jvm.LawKit Jvm.RoadKit Bundle Jvm.Pilot.@@N@@.Jvm.D
/-- what is still to come: from the frame g at T the run comes to an end that Q takes -/
def own_WP (p : Program) (e : Env) (below : List Frame) (Q : Outcome → State → Prop) (T : State) (g : JFrame) : Prop :=
  ∃ s₂ o, Steps p.tables e below (T.setTop g) s₂ ∧ s₂.status = .running ∧ Ended s₂ below o ∧ Q o s₂
def own_Q (s : State) (P : Option Value → Heap → List Loc → Prop) (C S : Nat) (o : Outcome) (U : State) : Prop :=
  ∃ v L, o = .returned v ∧ P v U.heap L ∧ FrameEnd s o U L C S
def own_Ctx (p : Program) (s : State) (m : MethodId) (meth : Method) (c : Code) (Z : State) (y : MethodName) (bytes : ByteArray) (maxL : Nat) (rt : Option FieldType) : Prop :=
  p.tables.exec = Jvm.exec ∧ Z.Warmed39 s.vm ∧ c.code = bytes ∧ c.maxLocals = maxL ∧ s.vm.findClass y.cls = some m.cls ∧ meth.name = y.name ∧ meth.sig.returnType = rt ∧ meth.locks = false
def own_Met (l : Launch) (Z : State) (y : MethodName) (bytes : ByteArray) (maxL : Nat) (rt : Option FieldType) (ws : List Jvm.Cond) (rm : Room) (as' : Array Value) (h : Heap) (P : Option Value → Heap → List Loc → Prop) : Prop :=
  MetFree l y (head1 (Jvm.Cond.code y bytes maxL rt :: ws) rm) (fun a U => a = as' ∧ Z.Warmed39 U.vm ∧ U.heap = h) (fun _ _ _ _ _ => True) (fun _ U o U' => ∃ v L, o = .returned v ∧ P v U'.heap L ∧ FrameEnd U o U' L rm.cells rm.slots)
section Own
variable {p : Program} {l : Launch} {e : Env} {R : Room} {s : State} {m : MethodId} {args : Array Value} {below : List Frame} {meth : Method} {c : Code} {T T' : State} {locs : List Loc} {cells slots : Nat} {Z : State} {a0 : Array Value} {y : MethodName} {bytes : ByteArray} {maxL : Nat} {rt : Option FieldType} {P : Option Value → Heap → List Loc → Prop} {Q : Outcome → State → Prop}
theorem own_go {g g' : JFrame} (st : ∀ t, Steps p.tables e below (T'.setTop g') t → Steps p.tables e below (T.setTop g) t) (h : own_WP p e below Q T' g') : own_WP p e below Q T g := by
  obtain ⟨s₂, o, h1, h2⟩ := h
  exact ⟨s₂, o, st _ h1, h2⟩
theorem own_body {ws : List Jvm.Cond} {rm : Room} {as' : Array Value} {h : Heap} (hp : plainFor y = true)
    (body : ∀ p e s m below meth c s₁, own_Ctx p s m meth c Z y bytes maxL rt → Stand p l e rm s m as' below meth c s₁ [] 0 0 → s₁.heap = h → own_WP p e below (own_Q s P rm.cells rm.slots) s₁ (entryFrame m as' maxL)) :
    own_Met l Z y bytes maxL rt ws rm as' h P := by
  refine MetFree.of_bodySF hp hisR ?_
  intro p e s m args below meth c s₁ Bd hml0 hP hK
  obtain ⟨rfl, hZ, hh⟩ := hP
  exact body p e s m below meth c s₁ ⟨Bd.exec, hZ, Bd.bytes, hml0, findClass_of_methodNamed Bd.named, (name_of_methodNamed Bd.named Bd.method).1, Bd.returns, Bd.notSynchronized⟩ (Stand.of_body Bd) (by rw [← hh, Bd.state]; rfl)
theorem own_cast {g g' : JFrame} (q : g = g') (k : own_WP p e below Q T g') : own_WP p e below Q T g := q ▸ k
theorem own_retI (X : Stand p l e R s m args below meth c T locs cells slots) (C : own_Ctx p s m meth c Z y bytes maxL (some .int)) {pc : Nat} {Ls : Array Slot} {z : Int32} {rest : List Value} {CC SS : Nat}
    (hd : decode c.code pc = .ok (.ireturn, 1)) (hP : P (some (.int z)) T.heap locs) (hc : cells ≤ CC) (hs : slots ≤ SS) : own_WP p e below (own_Q s P CC SS) T (mkF m pc Ls (.int z :: rest)) := by
  obtain ⟨hx, -, -, -, -, -, hr, hlk⟩ := C
  obtain ⟨fs, hrr, hrun, hended, hW, hsame⟩ := X.leave (v := some (.int z)) (fun h => by rw [hr] at h; cases h) hlk
  exact ⟨_, _, retI X hx hr hd hrr, hrun, hended, _, _, rfl, hP, ⟨_, rfl⟩, hW, hsame.mono hc hs⟩
theorem own_retN {t : FieldType} (X : Stand p l e R s m args below meth c T locs cells slots) (C : own_Ctx p s m meth c Z y bytes maxL (some t)) (ht : t = .boolean ∨ t = .byte ∨ t = .char ∨ t = .short) {pc : Nat} {Ls : Array Slot} {z : Int32} {rest : List Value} {CC SS : Nat}
    (hd : decode c.code pc = .ok (.ireturn, 1)) (hP : P (some (.int (nar t z))) T.heap locs) (hc : cells ≤ CC) (hs : slots ≤ SS) : own_WP p e below (own_Q s P CC SS) T (mkF m pc Ls (.int z :: rest)) := by
  obtain ⟨hx, -, -, -, -, -, hr, hlk⟩ := C
  obtain ⟨fs, hrr, hrun, hended, hW, hsame⟩ := X.leave (v := some (.int (nar t z))) (fun h => by rw [hr] at h; cases h) hlk
  exact ⟨_, _, retN X hx hr ht hd hrr, hrun, hended, _, _, rfl, hP, ⟨_, rfl⟩, hW, hsame.mono hc hs⟩
theorem own_retL (X : Stand p l e R s m args below meth c T locs cells slots) (C : own_Ctx p s m meth c Z y bytes maxL (some .long)) {pc : Nat} {Ls : Array Slot} {z : Int64} {CC SS : Nat}
    (hd : decode c.code pc = .ok (.lreturn, 1)) (hP : P (some (.long z)) T.heap locs) (hc : cells ≤ CC) (hs : slots ≤ SS) : own_WP p e below (own_Q s P CC SS) T (mkF m pc Ls [.long z]) := by
  obtain ⟨hx, -, -, -, -, -, hr, hlk⟩ := C
  obtain ⟨fs, hrr, hrun, hended, hW, hsame⟩ := X.leave (v := some (.long z)) (fun h => by rw [hr] at h; cases h) hlk
  exact ⟨_, _, X.lreturnOut hx hr hd hrr, hrun, hended, _, _, rfl, hP, ⟨_, rfl⟩, hW, hsame.mono hc hs⟩
theorem own_retV (X : Stand p l e R s m args below meth c T locs cells slots) (C : own_Ctx p s m meth c Z y bytes maxL none) {pc : Nat} {Ls : Array Slot} {CC SS : Nat}
    (hd : decode c.code pc = .ok (.return_, 1)) (hP : P none T.heap locs) (hc : cells ≤ CC) (hs : slots ≤ SS) : own_WP p e below (own_Q s P CC SS) T (mkF m pc Ls []) := by
  obtain ⟨hx, -, -, -, -, -, hr, hlk⟩ := C
  obtain ⟨fs, hrr, hrun, hended, hW, hsame⟩ := X.leave (v := none) (fun _ => rfl) hlk
  exact ⟨_, _, X.returnOut hx hr hd hrr, hrun, hended, _, _, rfl, hP, ⟨_, rfl⟩, hW, hsame.mono hc hs⟩
theorem own_retA {t : FieldType} (X : Stand p l e R s m args below meth c T locs cells slots) (C : own_Ctx p s m meth c Z y bytes maxL (some t)) (ht : t.isReference = true) {pc : Nat} {Ls : Array Slot} {a : Addr} {CC SS : Nat}
    (hd : decode c.code pc = .ok (.areturn, 1)) (hP : P (some (.ref a)) T.heap locs) (hc : cells ≤ CC) (hs : slots ≤ SS) : own_WP p e below (own_Q s P CC SS) T (mkF m pc Ls [.ref a]) := by
  obtain ⟨hx, -, -, -, -, -, hr, hlk⟩ := C
  obtain ⟨fs, hrr, hrun, hended, hW, hsame⟩ := X.leave (v := some (.ref a)) (fun h => by rw [hr] at h; cases h) hlk
  exact ⟨_, _, X.areturnOut hx rfl hr ht hd hrr, hrun, hended, _, _, rfl, hP, ⟨_, rfl⟩, hW, hsame.mono hc hs⟩
/-- a static call by the callee's contract -/
theorem own_callS (X : Stand p l e R s m args below meth c T locs cells slots) (C : own_Ctx p s m meth c Z y bytes maxL rt) {idx : Nat} {y' : MethodName} {bytes' : ByteArray} {maxL' : Nat} {rt' : Option FieldType} {rm' : Room} {argsL rest : List Value} {h : Heap} {P' : Option Value → Heap → List Loc → Prop}
    (hM : own_Met l Z y' bytes' maxL' rt' [] rm' argsL.toArray h P') (w1 : (Cond.methodLink y.cls idx y').before a0 Z = true) (w2 : (Cond.static y').before a0 Z = true) (w3 : (Cond.initialized y'.cls).before a0 Z = true) (w4 : (Cond.code y' bytes' maxL' rt').before a0 Z = true)
    (hy : y'.cls ≠ "java/lang/invoke/MethodHandle" ∧ y'.cls ≠ "java/lang/invoke/VarHandle") (eT : T.heap = h) {W : Nat} {pc : Nat} {Ls : Array Slot} (hsz : Ls.size = maxL) (hlen : ∀ sig, parseMethodDescriptor y'.desc = some sig → argsL.length = sig.parameters.length)
    {stk : List Value} (hst : stk = argsL.reverse ++ rest) (hW : (rest.map fun v => v.category).sum ≤ W) (hd : decode c.code pc = .ok (.invokestatic idx, 3))
    (hf : rm'.frames + 1 ≤ R.frames) (hl : W + (maxL' + 11) + rm'.locals ≤ R.locals) (hc : cells + rm'.cells ≤ R.cells) (hs : slots + rm'.slots ≤ R.slots) :
    ∃ T' v L, Stand p l e R s m args below meth c T' (locs ++ L) (cells + rm'.cells) (slots + rm'.slots) ∧ P' v T'.heap L ∧ ∀ t, Steps p.tables e below (T'.setTop (mkF m (pc + 3) Ls (v.toList ++ rest))) t → Steps p.tables e below (T.setTop (mkF m pc Ls stk)) t := by
  obtain ⟨hx, hZ, hby, hml, hown, hnm, hr, hlk⟩ := C
  obtain ⟨v, _, ⟨T', L', k', n'⟩, -, X', ⟨L, hQ, hl', hk', hn'⟩, st⟩ := Jvm.LawKit.callS X hx (y := y') hown (mvT hZ w1) (mvT hZ w2) (mvT hZ w3) (mvT hZ w4) hy (backOf (W := W) hM hZ w4 w3 hf hl) (g := mkF m pc Ls stk) rfl (by rw [hml]; exact hsz) (argsL := argsL) (rest := rest) hlen hst (by show 2 * 0 + _ ≤ _; omega) hd (fun _ _ => ⟨rfl, eT, hc, hs⟩)
  dsimp only [Pt.U, Pt.locs, Pt.cells, Pt.slots] at X' hl' hk' hn' st hQ
  subst hl' hk' hn'
  exact ⟨T', v, L, X', hQ, st⟩
/-- a constructor by its contract -/
theorem own_callN (X : Stand p l e R s m args below meth c T locs cells slots) (C : own_Ctx p s m meth c Z y bytes maxL rt) {idx : Nat} {y' : MethodName} {bytes' : ByteArray} {maxL' : Nat} {rm' : Room} {a : Addr} {argsL rest : List Value} {h : Heap} {P' : Option Value → Heap → List Loc → Prop}
    (hM : own_Met l Z y' bytes' maxL' none [] rm' (.ref a :: argsL).toArray h P') (hyn : y'.name = "<init>") (w1 : (Cond.methodLink y.cls idx y').before a0 Z = true) (w2 : (Cond.instanceMethod y').before a0 Z = true) (w3 : (Cond.initialized y'.cls).before a0 Z = true) (w4 : (Cond.code y' bytes' maxL' none).before a0 Z = true)
    (hy : y'.cls ≠ "java/lang/invoke/MethodHandle" ∧ y'.cls ≠ "java/lang/invoke/VarHandle") (eT : T.heap = h) {W : Nat} {pc : Nat} {Ls : Array Slot} (hsz : Ls.size = maxL) (hlen : ∀ sig, parseMethodDescriptor y'.desc = some sig → argsL.length = sig.parameters.length)
    {stk : List Value} (hst : stk = argsL.reverse ++ .ref a :: rest) (hW : (rest.map fun v => v.category).sum ≤ W) (hd : decode c.code pc = .ok (.invokespecial idx, 3))
    (hf : rm'.frames + 1 ≤ R.frames) (hl : W + (maxL' + 11) + rm'.locals ≤ R.locals) (hc : cells + rm'.cells ≤ R.cells) (hs : slots + rm'.slots ≤ R.slots) :
    ∃ T' v L, Stand p l e R s m args below meth c T' (locs ++ L) (cells + rm'.cells) (slots + rm'.slots) ∧ P' v T'.heap L ∧ ∀ t, Steps p.tables e below (T'.setTop (mkF m (pc + 3) Ls (v.toList ++ rest))) t → Steps p.tables e below (T.setTop (mkF m pc Ls stk)) t := by
  obtain ⟨hx, hZ, hby, hml, hown, hnm, hr, hlk⟩ := C
  obtain ⟨v, _, ⟨T', L', k', n'⟩, -, X', ⟨L, hQ, hl', hk', hn'⟩, st⟩ := X.specialBack hx (y := y') hyn hown (mvT hZ w1) (mvT hZ w2) (mvT hZ w4) hy (backOf (W := W) hM hZ w4 w3 hf hl) (g := mkF m pc Ls stk) rfl (by rw [hml]; exact hsz) (Steps.refl _) (a := a) (argsL := argsL) (rest := rest) hlen hst (by show 2 * 0 + _ ≤ _; omega) hd (fun _ _ => ⟨rfl, eT, hc, hs⟩)
  dsimp only [Pt.U, Pt.locs, Pt.cells, Pt.slots] at X' hl' hk' hn' st hQ
  subst hl' hk' hn'
  exact ⟨T', v, L, X', hQ, fun t k => st.trans k⟩
/-- an instance method by the contract of the body that is selected (the class that declares it is the receiver's own) -/
theorem own_callV (X : Stand p l e R s m args below meth c T locs cells slots) (C : own_Ctx p s m meth c Z y bytes maxL rt) {idx : Nat} {y' : MethodName} {bytes' : ByteArray} {maxL' : Nat} {rt' : Option FieldType} {rm' : Room} {a : Addr} {argsL rest : List Value} {h : Heap} {P' : Option Value → Heap → List Loc → Prop}
    (hM : own_Met l Z y' bytes' maxL' rt' [] rm' (.ref a :: argsL).toArray h P') (w1 : (Cond.methodLink y.cls idx y').before a0 Z = true) (wd : (Cond.declares y').before a0 Z = true) (wsel : (Cond.selects y'.cls y' y').before a0 Z = true) (w2 : (Cond.instanceMethod y').before a0 Z = true) (w3 : (Cond.initialized y'.cls).before a0 Z = true) (w4 : (Cond.code y' bytes' maxL' rt').before a0 Z = true)
    (hy : y'.cls ≠ "java/lang/invoke/MethodHandle" ∧ y'.cls ≠ "java/lang/invoke/VarHandle") (eT : T.heap = h) (E : Exa Z h a y'.cls) {W : Nat} {pc : Nat} {Ls : Array Slot} (hsz : Ls.size = maxL) (hlen : ∀ sig, parseMethodDescriptor y'.desc = some sig → argsL.length = sig.parameters.length)
    {stk : List Value} (hst : stk = argsL.reverse ++ .ref a :: rest) (hW : (rest.map fun v => v.category).sum ≤ W) (hd : decode c.code pc = .ok (.invokevirtual idx, 3))
    (hf : rm'.frames + 1 ≤ R.frames) (hl : W + (maxL' + 11) + rm'.locals ≤ R.locals) (hc : cells + rm'.cells ≤ R.cells) (hs : slots + rm'.slots ≤ R.slots) :
    ∃ T' v L, Stand p l e R s m args below meth c T' (locs ++ L) (cells + rm'.cells) (slots + rm'.slots) ∧ P' v T'.heap L ∧ ∀ t, Steps p.tables e below (T'.setTop (mkF m (pc + 3) Ls (v.toList ++ rest))) t → Steps p.tables e below (T.setTop (mkF m pc Ls stk)) t := by
  obtain ⟨hx, hZ, hby, hml, hown, hnm, hr, hlk⟩ := C
  obtain ⟨cq, kq, qa, qb, qc⟩ := isOf hZ eT E
  obtain ⟨v, _, ⟨T', L', k', n'⟩, -, X', ⟨L, hQ, hl', hk', hn'⟩, st⟩ := X.virtualBack hx (y := y') (z := y') hown (mvT hZ w1) (mvT hZ wd) (notFace_of_selects (args := #[]) (mvT hZ wsel)) (mvT hZ wsel) (mvT hZ w2) hy (backOf (W := W) hM hZ w4 w3 hf hl) qa qc (g := mkF m pc Ls stk) rfl (by rw [hml]; exact hsz) (Steps.refl _) (argsL := argsL) (rest := rest) hlen hst (by show 2 * 0 + _ ≤ _; omega) hd (fun _ _ => ⟨rfl, eT, hc, hs⟩)
  dsimp only [Pt.U, Pt.locs, Pt.cells, Pt.slots] at X' hl' hk' hn' st hQ
  subst hl' hk' hn'
  exact ⟨T', v, L, X', hQ, fun t k => st.trans k⟩
end Own
end Jvm.Pilot.@@N@@
namespace Jvm.Pilot.@@N@@
open Jvm Jvm.ClassFile Sem Op Lib Jvm.Free Jvm.Stand Jvm.LawKit Jvm.RoadKit Bundle Jvm.Pilot.@@N@@.Jvm.D
/-- the array at b holds just vs -/
def own_A (Z : State) (h : Heap) (b : Addr) (ty : FieldType) (vs : List Value) : Prop := Exa Z h b ("[" ++ ty.toString) ∧ ∃ c : Cell, Arr Z h b c ty ∧ c.slots = vs.toArray ∧ vs.length < 2147483648 ∧ ∀ v ∈ vs, fits ty v = true
def own_AI (Z : State) (h : Heap) (b : Addr) (ty : FieldType) (vs : List Int32) : Prop := own_A Z h b ty (vs.map Value.int)
def own_AJ (Z : State) (h : Heap) (b : Addr) (ty : FieldType) (vs : List Int64) : Prop := own_A Z h b ty (vs.map Value.long)
def own_get {α : Type} (vs : List α) (j : Int32) : Option α := if j < 0 then none else vs[j.toNatClampNeg]?
def own_set {α : Type} (vs : List α) (j : Int32) (x : α) : Option (List α) := if j < 0 then none else if j.toNatClampNeg < vs.length then some (vs.set j.toNatClampNeg x) else none
theorem own_bind {α β : Type} {o : Option α} {f : α → Option β} {r : β} (h : o.bind f = some r) : ∃ v, o = some v ∧ f v = some r := by
  cases o with
  | none => cases h
  | some v => exact ⟨v, rfl, h⟩
def own_let {α β : Type} (a : α) (f : α → β) : β := f a
theorem own_cap {n : Int32} {c : Int} {k : Nat} (hk : c = (k : Int)) (h : ¬ c < n.toInt) : n.toNatClampNeg ≤ k := by
  have q : n.toNatClampNeg = n.toInt.toNat := rfl
  rw [q]; omega
section Own
variable {p : Program} {l : Launch} {e : Env} {R : Room} {s : State} {m : MethodId} {args : Array Value} {below : List Frame} {meth : Method} {c : Code} {T T' : State} {locs : List Loc} {cells slots : Nat} {Z : State} {a0 : Array Value} {y : MethodName} {bytes : ByteArray} {maxL : Nat} {rt : Option FieldType} {h h' : Heap} {a b : Addr} {ty : FieldType}
theorem own_A.lt {vs : List Value} (F : own_A Z h b ty vs) : b < h.size := by obtain ⟨E, c, A, -⟩ := F; exact A.lt
theorem own_A.ext {vs : List Value} (F : own_A Z h b ty vs) (E : Ext h h') : own_A Z h' b ty vs := by obtain ⟨Q, c, A, r⟩ := F; exact ⟨Q.ext E, c, A.ext E, r⟩
theorem own_A.other {vs : List Value} {sl : Nat} {v : Value} (F : own_A Z h b ty vs) (W : Wr h h' a sl v) (q : b ≠ a) : own_A Z h' b ty vs := by obtain ⟨Q, c, A, r⟩ := F; exact ⟨Q.wr W, c, A.other W q, r⟩
theorem own_A.keep {vs : List Value} {ws : List Addr} (F : own_A Z h b ty vs) (K : Keep h h' ws) (q : b ∉ ws) : own_A Z h' b ty vs := by obtain ⟨Q, c, A, r⟩ := F; exact ⟨Q.keep K, c, ⟨K.2.1 b c A.1 q, A.2⟩, r⟩
theorem own_A.set {vs : List Value} {j : Nat} {v : Value} (F : own_A Z h b ty vs) (W : Wr h h' b j v) (hv : fits ty v = true) : own_A Z h' b ty (vs.set j v) := by
  obtain ⟨Q, c, A, r1, r2, r3⟩ := F
  refine ⟨Q.wr W, _, A.same W, ?_, by simpa using r2, ?_⟩
  · show c.slots.setIfInBounds j v = _
    rw [r1]; simp
  · intro u hu
    rcases List.mem_or_eq_of_mem_set hu with q | q
    · exact r3 u q
    · rw [q]; exact hv
theorem own_AI.lt {vs : List Int32} (F : own_AI Z h b ty vs) : b < h.size := own_A.lt F
theorem own_AI.ext {vs : List Int32} (F : own_AI Z h b ty vs) (E : Ext h h') : own_AI Z h' b ty vs := own_A.ext F E
theorem own_AI.other {vs : List Int32} {sl : Nat} {v : Value} (F : own_AI Z h b ty vs) (W : Wr h h' a sl v) (q : b ≠ a) : own_AI Z h' b ty vs := own_A.other F W q
theorem own_AI.keep {vs : List Int32} {ws : List Addr} (F : own_AI Z h b ty vs) (K : Keep h h' ws) (q : b ∉ ws) : own_AI Z h' b ty vs := own_A.keep F K q
theorem own_AJ.lt {vs : List Int64} (F : own_AJ Z h b ty vs) : b < h.size := own_A.lt F
theorem own_AJ.ext {vs : List Int64} (F : own_AJ Z h b ty vs) (E : Ext h h') : own_AJ Z h' b ty vs := own_A.ext F E
theorem own_AJ.other {vs : List Int64} {sl : Nat} {v : Value} (F : own_AJ Z h b ty vs) (W : Wr h h' a sl v) (q : b ≠ a) : own_AJ Z h' b ty vs := own_A.other F W q
theorem own_AJ.keep {vs : List Int64} {ws : List Addr} (F : own_AJ Z h b ty vs) (K : Keep h h' ws) (q : b ∉ ws) : own_AJ Z h' b ty vs := own_A.keep F K q
theorem own_A.place {α : Type} {f : α → Value} {vs : List α} {j : Int32} {v : α} (F : own_A Z h b ty (vs.map f)) (g : own_get vs j = some v) : ∃ c : Cell, Arr Z h b c ty ∧ ¬ (j < 0 ∨ c.slots.size ≤ j.toNatClampNeg) ∧ c.slots[j.toNatClampNeg]? = some (f v) := by
  obtain ⟨-, c, A, r1, r2, -⟩ := F
  unfold own_get at g
  split at g
  · cases g
  · rename_i hj
    obtain ⟨hlt, hv⟩ := List.getElem?_eq_some_iff.mp g
    refine ⟨c, A, ?_, ?_⟩
    · rintro (q | q)
      · exact hj q
      · rw [r1] at q; simp at q; omega
    · rw [r1]; simp [g]
theorem own_A.room {α : Type} {f : α → Value} {vs vs' : List α} {j : Int32} {v : α} (F : own_A Z h b ty (vs.map f)) (g : own_set vs j v = some vs') : ∃ c : Cell, Arr Z h b c ty ∧ ¬ (j < 0 ∨ c.slots.size ≤ j.toNatClampNeg) ∧ vs' = vs.set j.toNatClampNeg v := by
  obtain ⟨-, c, A, r1, r2, -⟩ := F
  unfold own_set at g
  split at g
  · cases g
  · rename_i hj
    split at g
    · rename_i hlt
      refine ⟨c, A, ?_, (Option.some.inj g).symm⟩
      rintro (q | q)
      · exact hj q
      · rw [r1] at q; simp at q; omega
    · cases g
theorem own_iaload (X : Stand p l e R s m args below meth c T locs cells slots) (C : own_Ctx p s m meth c Z y bytes maxL rt) (eT : T.heap = h) {vs : List Int32} (F : own_AI Z h b .int vs) {j v : Int32} (g : own_get vs j = some v) {pc : Nat} {Ls : Array Slot} {rest : List Value} (hd : decode c.code pc = .ok (.iaload, 1)) :
    ∀ t, Steps p.tables e below (T.setTop (mkF m (pc + 1) Ls (.int v :: rest))) t → Steps p.tables e below (T.setTop (mkF m pc Ls (.int j :: .ref b :: rest))) t := by
  obtain ⟨hx, hZ, -⟩ := C
  obtain ⟨cl, A, hin, hat⟩ := own_A.place F g
  intro t k
  exact X.iaload hx (j := j) (v := .int v) (by rw [eT]; exact A.1) (State.isArrayOf_alike hZ.alike A.2.1) A.2.2 hin hat (g := mkF m pc Ls (.int j :: .ref b :: rest)) rfl rfl hd t k
theorem own_baload (X : Stand p l e R s m args below meth c T locs cells slots) (C : own_Ctx p s m meth c Z y bytes maxL rt) (eT : T.heap = h) {vs : List Int32} (F : own_AI Z h b .byte vs) {j v : Int32} (g : own_get vs j = some v) {pc : Nat} {Ls : Array Slot} {rest : List Value} (hd : decode c.code pc = .ok (.baload, 1)) :
    ∀ t, Steps p.tables e below (T.setTop (mkF m (pc + 1) Ls (.int v :: rest))) t → Steps p.tables e below (T.setTop (mkF m pc Ls (.int j :: .ref b :: rest))) t := by
  obtain ⟨hx, hZ, -⟩ := C
  obtain ⟨cl, A, hin, hat⟩ := own_A.place F g
  intro t k
  exact X.baloadBytes hx (j := j) (v := .int v) (by rw [eT]; exact A.1) (State.isArrayOf_alike hZ.alike A.2.1) A.2.2 hin hat (g := mkF m pc Ls (.int j :: .ref b :: rest)) rfl rfl hd t k
theorem own_laload (X : Stand p l e R s m args below meth c T locs cells slots) (C : own_Ctx p s m meth c Z y bytes maxL rt) (eT : T.heap = h) {vs : List Int64} (F : own_AJ Z h b .long vs) {j : Int32} {v : Int64} (g : own_get vs j = some v) {pc : Nat} {Ls : Array Slot} {rest : List Value} (hd : decode c.code pc = .ok (.laload, 1)) :
    ∀ t, Steps p.tables e below (T.setTop (mkF m (pc + 1) Ls (.long v :: rest))) t → Steps p.tables e below (T.setTop (mkF m pc Ls (.int j :: .ref b :: rest))) t := by
  obtain ⟨hx, hZ, -⟩ := C
  obtain ⟨cl, A, hin, hat⟩ := own_A.place F g
  intro t k
  exact X.laload hx (j := j) (v := .long v) (by rw [eT]; exact A.1) (State.isArrayOf_alike hZ.alike A.2.1) A.2.2 hin hat (g := mkF m pc Ls (.int j :: .ref b :: rest)) rfl rfl hd t k
theorem own_len (X : Stand p l e R s m args below meth c T locs cells slots) (C : own_Ctx p s m meth c Z y bytes maxL rt) (eT : T.heap = h) {vs : List Value} (F : own_A Z h b ty vs) {pc : Nat} {Ls : Array Slot} {rest : List Value} (hd : decode c.code pc = .ok (.arraylength, 1)) :
    ∀ t, Steps p.tables e below (T.setTop (mkF m (pc + 1) Ls (.int (Int32.ofNat vs.length) :: rest))) t → Steps p.tables e below (T.setTop (mkF m pc Ls (.ref b :: rest))) t := by
  obtain ⟨hx, hZ, -⟩ := C
  obtain ⟨-, cl, A, r1, r2, -⟩ := F
  intro t k
  refine X.arraylength hx (by rw [eT]; exact A.1) (State.isArrayOf_alike hZ.alike A.2.1) (g := mkF m pc Ls (.ref b :: rest)) rfl rfl hd t ?_
  have q : cl.slots.size.toInt32 = Int32.ofNat vs.length := by
    rw [r1, List.size_toArray]
  rw [q]; exact k
theorem own_lenI (X : Stand p l e R s m args below meth c T locs cells slots) (C : own_Ctx p s m meth c Z y bytes maxL rt) (eT : T.heap = h) {vs : List Int32} (F : own_AI Z h b ty vs) {pc : Nat} {Ls : Array Slot} {rest : List Value} (hd : decode c.code pc = .ok (.arraylength, 1)) :
    ∀ t, Steps p.tables e below (T.setTop (mkF m (pc + 1) Ls (.int (Int32.ofNat vs.length) :: rest))) t → Steps p.tables e below (T.setTop (mkF m pc Ls (.ref b :: rest))) t := by
  have k := own_len X C eT F (Ls := Ls) (rest := rest) hd
  rwa [List.length_map] at k
theorem own_lenJ (X : Stand p l e R s m args below meth c T locs cells slots) (C : own_Ctx p s m meth c Z y bytes maxL rt) (eT : T.heap = h) {vs : List Int64} (F : own_AJ Z h b ty vs) {pc : Nat} {Ls : Array Slot} {rest : List Value} (hd : decode c.code pc = .ok (.arraylength, 1)) :
    ∀ t, Steps p.tables e below (T.setTop (mkF m (pc + 1) Ls (.int (Int32.ofNat vs.length) :: rest))) t → Steps p.tables e below (T.setTop (mkF m pc Ls (.ref b :: rest))) t := by
  have k := own_len X C eT F (Ls := Ls) (rest := rest) hd
  rwa [List.length_map] at k
theorem own_iastore (X : Stand p l e R s m args below meth c T locs cells slots) (C : own_Ctx p s m meth c Z y bytes maxL rt) (eT : T.heap = h) {vs vs' : List Int32} (F : own_AI Z h b .int vs) {j x : Int32} (g : own_set vs j x = some vs') {pc : Nat} {Ls : Array Slot} {rest : List Value} (hd : decode c.code pc = .ok (.iastore, 1)) :
    ∃ T' h', Stand p l e R s m args below meth c T' (locs ++ [⟨b, j.toNatClampNeg⟩]) cells slots ∧ T'.heap = h' ∧ Wr h h' b j.toNatClampNeg (.int x) ∧ own_AI Z h' b .int vs' ∧
      ∀ t, Steps p.tables e below (T'.setTop (mkF m (pc + 1) Ls rest)) t → Steps p.tables e below (T.setTop (mkF m pc Ls (.int x :: .int j :: .ref b :: rest))) t := by
  obtain ⟨hx, hZ, -⟩ := C
  obtain ⟨cl, A, hin, rfl⟩ := own_A.room F g
  obtain ⟨T', h', X', e', W, st⟩ := stI X hx hZ eT A (j := j) (x := x) hin (g := mkF m pc Ls (.int x :: .int j :: .ref b :: rest)) rfl rfl hd
  refine ⟨T', h', X', e', W, ?_, st⟩
  have k := own_A.set F W rfl
  unfold own_AI
  rwa [List.map_set]
theorem own_lastore (X : Stand p l e R s m args below meth c T locs cells slots) (C : own_Ctx p s m meth c Z y bytes maxL rt) (eT : T.heap = h) {vs vs' : List Int64} (F : own_AJ Z h b .long vs) {j : Int32} {x : Int64} (g : own_set vs j x = some vs') {pc : Nat} {Ls : Array Slot} {rest : List Value} (hd : decode c.code pc = .ok (.lastore, 1)) :
    ∃ T' h', Stand p l e R s m args below meth c T' (locs ++ [⟨b, j.toNatClampNeg⟩]) cells slots ∧ T'.heap = h' ∧ Wr h h' b j.toNatClampNeg (.long x) ∧ own_AJ Z h' b .long vs' ∧
      ∀ t, Steps p.tables e below (T'.setTop (mkF m (pc + 1) Ls rest)) t → Steps p.tables e below (T.setTop (mkF m pc Ls (.long x :: .int j :: .ref b :: rest))) t := by
  obtain ⟨hx, hZ, -⟩ := C
  obtain ⟨cl, A, hin, rfl⟩ := own_A.room F g
  obtain ⟨T', h', X', e', W, st⟩ := stJ X hx hZ eT A (j := j) (x := x) hin (g := mkF m pc Ls (.long x :: .int j :: .ref b :: rest)) rfl rfl hd
  refine ⟨T', h', X', e', W, ?_, st⟩
  have k := own_A.set F W rfl
  unfold own_AJ
  rwa [List.map_set]
theorem own_bastore (X : Stand p l e R s m args below meth c T locs cells slots) (C : own_Ctx p s m meth c Z y bytes maxL rt) (eT : T.heap = h) {vs vs' : List Int32} (F : own_AI Z h b .byte vs) {j x : Int32} (g : own_set vs j (x.toInt8.toInt32) = some vs') {pc : Nat} {Ls : Array Slot} {rest : List Value} (hd : decode c.code pc = .ok (.bastore, 1)) :
    ∃ T' h', Stand p l e R s m args below meth c T' (locs ++ [⟨b, j.toNatClampNeg⟩]) cells slots ∧ T'.heap = h' ∧ Wr h h' b j.toNatClampNeg (.int (x.toInt8.toInt32)) ∧ own_AI Z h' b .byte vs' ∧
      ∀ t, Steps p.tables e below (T'.setTop (mkF m (pc + 1) Ls rest)) t → Steps p.tables e below (T.setTop (mkF m pc Ls (.int x :: .int j :: .ref b :: rest))) t := by
  obtain ⟨hx, hZ, -⟩ := C
  obtain ⟨cl, A, hin, rfl⟩ := own_A.room F g
  obtain ⟨T', h', X', e', W, st⟩ := stB X hx hZ eT A (j := j) (x := x) hin (g := mkF m pc Ls (.int x :: .int j :: .ref b :: rest)) rfl rfl hd
  refine ⟨T', h', X', e', W, ?_, st⟩
  have k := own_A.set F W (fits_nar_byte x)
  unfold own_AI
  rwa [List.map_set]
theorem own_newI (X : Stand p l e R s m args below meth c T locs cells slots) (C : own_Ctx p s m meth c Z y bytes maxL rt) (eT : T.heap = h) {aty : ArrayType} (hk : newarray.typeOf aty = ty) (hdv : defaultValue ty = .int 0) (hfz : fits ty (.int 0) = true) (w : (Cond.arrayClass ty).before a0 Z = true) {n : Int32} (hn : ¬ n < 0) {cap : Nat} (hcap : n.toNatClampNeg ≤ cap) (hb : cap * 8 ≤ 536870912) (hc : cells + 1 ≤ R.cells) (hl : slots + cap ≤ R.slots)
    {pc : Nat} {Ls : Array Slot} {rest : List Value} (hd : decode c.code pc = .ok (.newarray aty, 2)) :
    ∃ T' h' b, Stand p l e R s m args below meth c T' locs (cells + 1) (slots + cap) ∧ T'.heap = h' ∧ Ext h h' ∧ b = h.size ∧ own_AI Z h' b ty (List.replicate n.toNatClampNeg 0) ∧
      ∀ t, Steps p.tables e below (T'.setTop (mkF m (pc + 2) Ls (.ref b :: rest))) t → Steps p.tables e below (T.setTop (mkF m pc Ls (.int n :: rest))) t := by
  obtain ⟨hx, hZ, -⟩ := C
  subst hk
  obtain ⟨T', h', k, X', e', E, A, Q, st⟩ := newPE X hx hZ w eT (g := mkF m pc Ls (.int n :: rest)) rfl hd rfl hn (cap := cap) hcap hb hc hl rfl
  refine ⟨T', h', h.size, X', e', E, rfl, ⟨Q, _, A, ?_, ?_, ?_⟩, st⟩
  · show Array.replicate _ _ = _
    rw [hdv]; simp
  · rw [List.map_replicate, List.length_replicate]; omega
  · intro v hv
    rw [List.map_replicate] at hv
    rw [List.eq_of_mem_replicate hv]
    exact hfz
theorem own_newJ (X : Stand p l e R s m args below meth c T locs cells slots) (C : own_Ctx p s m meth c Z y bytes maxL rt) (eT : T.heap = h) {aty : ArrayType} (hk : newarray.typeOf aty = ty) (hdv : defaultValue ty = .long 0) (hfz : fits ty (.long 0) = true) (w : (Cond.arrayClass ty).before a0 Z = true) {n : Int32} (hn : ¬ n < 0) {cap : Nat} (hcap : n.toNatClampNeg ≤ cap) (hb : cap * 8 ≤ 536870912) (hc : cells + 1 ≤ R.cells) (hl : slots + cap ≤ R.slots)
    {pc : Nat} {Ls : Array Slot} {rest : List Value} (hd : decode c.code pc = .ok (.newarray aty, 2)) :
    ∃ T' h' b, Stand p l e R s m args below meth c T' locs (cells + 1) (slots + cap) ∧ T'.heap = h' ∧ Ext h h' ∧ b = h.size ∧ own_AJ Z h' b ty (List.replicate n.toNatClampNeg 0) ∧
      ∀ t, Steps p.tables e below (T'.setTop (mkF m (pc + 2) Ls (.ref b :: rest))) t → Steps p.tables e below (T.setTop (mkF m pc Ls (.int n :: rest))) t := by
  obtain ⟨hx, hZ, -⟩ := C
  subst hk
  obtain ⟨T', h', k, X', e', E, A, Q, st⟩ := newPE X hx hZ w eT (g := mkF m pc Ls (.int n :: rest)) rfl hd rfl hn (cap := cap) hcap hb hc hl rfl
  refine ⟨T', h', h.size, X', e', E, rfl, ⟨Q, _, A, ?_, ?_, ?_⟩, st⟩
  · show Array.replicate _ _ = _
    rw [hdv]; simp
  · rw [List.map_replicate, List.length_replicate]; omega
  · intro v hv
    rw [List.map_replicate] at hv
    rw [List.eq_of_mem_replicate hv]
    exact hfz
end Own
end Jvm.Pilot.@@N@@
namespace Jvm.Pilot.@@N@@
open Jvm Jvm.ClassFile Sem Op Lib Jvm.Free Jvm.Stand Jvm.LawKit Jvm.RoadKit Bundle Jvm.Pilot.@@N@@.Jvm.D
theorem d5_0 : decode jdk_29_method_70_code 0 = .ok (.lload_n 0, 1) := by decide +kernel
theorem d5_1 : decode jdk_29_method_70_code 1 = .ok (.lload_n 2, 1) := by decide +kernel
theorem d5_2 : decode jdk_29_method_70_code 2 = .ok (.lcmp, 1) := by decide +kernel
theorem d5_3 : decode jdk_29_method_70_code 3 = .ok (.ifCond .gt 7, 3) := by decide +kernel
theorem d5_6 : decode jdk_29_method_70_code 6 = .ok (.lload_n 0, 1) := by decide +kernel
theorem d5_7 : decode jdk_29_method_70_code 7 = .ok (.goto 4, 3) := by decide +kernel
theorem d5_10 : decode jdk_29_method_70_code 10 = .ok (.lload_n 2, 1) := by decide +kernel
theorem d5_11 : decode jdk_29_method_70_code 11 = .ok (.lreturn, 1) := by decide +kernel
def rmR5 : Room := { frames := 0, cells := 0, slots := 0, locals := 0 }
def f5_0 (x0 : Int64) (x2 : Int64) : Int64 := (if x2 < x0 then x2 else x0)
set_option maxRecDepth 65536 in
set_option maxHeartbeats 40000000 in
theorem b5_0 {p : Program} {l : Launch} {e : Env} {s : State} {m : MethodId} {args : Array Value} {below : List Frame} {meth : Method} {c : Code} {T : State} {locs : List Loc} {Z : State} {a0 : Array Value} {h0 : Heap} {P : Option Value → Heap → List Loc → Prop} (hw : ∀ d ∈ tables_1, d.before a0 Z = true) (C : own_Ctx p s m meth c Z (⟨"java/lang/Math", "min", "(JJ)J"⟩ : MethodName) jdk_29_method_70_code 4 (some .long))
    (X : Stand p l e rmR5 s m args below meth c T locs 0 0) (e0 : T.heap = h0) (x0 : Int64) (x2 : Int64) (r : Int64) (hv : f5_0 x0 x2 = r) (hP : P (some (.long r)) h0 locs) :
    own_WP p e below (own_Q s P rmR5.cells rmR5.slots) T (mkF m 0 #[.val (.long x0), .second, .val (.long x2), .second] []) := by
  obtain ⟨hx, hZ, hby, hml, hown, hnm, hret, hlk⟩ := id C
  unfold f5_0 at hv
  show own_WP p e below _ T (mkF m 0 #[.val (.long x0), .second, .val (.long x2), .second] [])
  refine own_go (fun _ => XS.lloadN X.here hx rfl (hb hby d5_0) rfl) ?_
  show own_WP p e below _ T (mkF m 1 #[.val (.long x0), .second, .val (.long x2), .second] [(.long x0)])
  refine own_go (fun _ => XS.lloadN X.here hx rfl (hb hby d5_1) rfl) ?_
  show own_WP p e below _ T (mkF m 2 #[.val (.long x0), .second, .val (.long x2), .second] [(.long x2), (.long x0)])
  refine own_go (fun _ => XT.lcmp X.here hx rfl (hb hby d5_2) rfl) ?_
  show own_WP p e below _ T (mkF m 3 #[.val (.long x0), .second, .val (.long x2), .second] [(.int (XT.cmpL x0 x2))])
  by_cases h3 : x2 < x0
  · replace hv := (if_pos h3).symm.trans hv
    refine own_go (fun _ => XS.ifYes X.here hx rfl (pc0 := 3) (pc' := 10) rfl (hb hby d5_3) rfl (XT.ll_gt_t h3) (by decide) (by decide)) ?_
    show own_WP p e below _ T (mkF m 10 #[.val (.long x0), .second, .val (.long x2), .second] [])
    refine own_go (fun _ => XS.lloadN X.here hx rfl (hb hby d5_10) rfl) ?_
    show own_WP p e below _ T (mkF m 11 #[.val (.long x0), .second, .val (.long x2), .second] [(.long x2)])
    subst hv e0; exact own_retL X C (hb hby d5_11) hP (by decide) (by decide)
  · replace hv := (if_neg h3).symm.trans hv
    refine own_go (fun _ => XS.ifNo X.here hx rfl (hb hby d5_3) rfl (XT.ll_gt_f h3)) ?_
    show own_WP p e below _ T (mkF m 6 #[.val (.long x0), .second, .val (.long x2), .second] [])
    refine own_go (fun _ => XS.lloadN X.here hx rfl (hb hby d5_6) rfl) ?_
    show own_WP p e below _ T (mkF m 7 #[.val (.long x0), .second, .val (.long x2), .second] [(.long x0)])
    refine own_go (fun _ => XS.goto X.here hx rfl (pc0 := 7) (pc' := 11) rfl (hb hby d5_7) (by decide) (by decide)) ?_
    show own_WP p e below _ T (mkF m 11 #[.val (.long x0), .second, .val (.long x2), .second] [(.long x0)])
    subst hv e0; exact own_retL X C (hb hby d5_11) hP (by decide) (by decide)
theorem ef5 (m : MethodId) (x0 : Int64) (x2 : Int64) : entryFrame m #[(.long x0), (.long x2)] 4 = (mkF m 0 #[.val (.long x0), .second, .val (.long x2), .second] []) := by first | (simp [entryFrame, mkF, argsToLocals, Value.category]; done) | rfl
theorem pd5 : parseMethodDescriptor "(JJ)J" = some ⟨[.long, .long], some .long⟩ := by decide +kernel
theorem pn5 : plainFor (⟨"java/lang/Math", "min", "(JJ)J"⟩ : MethodName) = true := Jvm.Free.JP.mathPlain rfl (by decide +kernel)
theorem rm5 (l : Launch) (Z : State) (a0 : Array Value) (hw : ∀ d ∈ tables_1, d.before a0 Z = true) (x0 : Int64) (x2 : Int64) (h0 : Heap) : own_Met l Z (⟨"java/lang/Math", "min", "(JJ)J"⟩ : MethodName) jdk_29_method_70_code 4 (some .long) [] rmR5 #[(.long x0), (.long x2)] h0 (fun v h L => v = some (.long (f5_0 x0 x2)) ∧ L = [] ∧ h = h0) := by
  refine own_body pn5 ?_
  intro p e s m below meth c s₁ C X e0
  exact own_cast (ef5 m x0 x2) (b5_0 hw C X e0 x0 x2 _ rfl ⟨rfl, rfl, rfl⟩)
theorem d1_0 : decode prog_7_method_1_code 0 = .ok (.aload_n 0, 1) := by decide +kernel
theorem d1_1 : decode prog_7_method_1_code 1 = .ok (.invokespecial 1, 3) := by decide +kernel
theorem d1_4 : decode prog_7_method_1_code 4 = .ok (.aload_n 0, 1) := by decide +kernel
theorem d1_5 : decode prog_7_method_1_code 5 = .ok (.ldc2_w 9, 3) := by decide +kernel
theorem d1_8 : decode prog_7_method_1_code 8 = .ok (.putfield 11, 3) := by decide +kernel
theorem d1_11 : decode prog_7_method_1_code 11 = .ok (.return_, 1) := by decide +kernel
def rmR1 : Room := { frames := 1, cells := 0, slots := 0, locals := 12 }
def E1 (Z : State) (h0 : Heap) (o0 : Addr)  (rr : Int64) (v : Option Value) (h : Heap) : Prop := v = none ∧ Exa Z h o0 "com/example/elis/elis/Commit" ∧ Fld Z h o0 "com/example/elis/elis/Commit" "firstOverwriter" "J" (.long rr)
def f1_0  : Option (Int64) := (some (-1 : Int64))
set_option maxRecDepth 65536 in
set_option maxHeartbeats 40000000 in
theorem b1_0 {p : Program} {l : Launch} {e : Env} {s : State} {m : MethodId} {args : Array Value} {below : List Frame} {meth : Method} {c : Code} {Z : State} {a0 : Array Value} {h0 : Heap} {n0 : Nat} {P : Option Value → Heap → List Loc → Prop} (hw : ∀ d ∈ tables_1, d.before a0 Z = true) (C : own_Ctx p s m meth c Z (⟨"com/example/elis/elis/Commit", "<init>", "()V"⟩ : MethodName) prog_7_method_1_code 1 none) (Z0 : n0 ≤ h0.size) {o0 : Addr}  (rr : Int64) (hP : ∀ v h L, Fr n0 L → Keep h0 h [o0] → E1 Z h0 o0 rr v h → P v h L)
    {T : State} {locs : List Loc} {h : Heap} {c_o0_firstOverwriter : Int64} (X : Stand p l e rmR1 s m args below meth c T locs 0 0) (e0 : T.heap = h) (N : Fr n0 locs) (K : Keep h0 h [o0]) (g_o0 : n0 ≤ o0) (E_o0 : Exa Z h o0 "com/example/elis/elis/Commit") (F_o0_firstOverwriter : Fld Z h o0 "com/example/elis/elis/Commit" "firstOverwriter" "J" (.long c_o0_firstOverwriter)) (hv : f1_0 = some rr) :
    own_WP p e below (own_Q s P rmR1.cells rmR1.slots) T (mkF m 0 #[.val (.ref o0)] []) := by
  obtain ⟨hx, hZ, hby, hml, hown, hnm, hret, hlk⟩ := id C
  replace hown : s.vm.findClass "com/example/elis/elis/Commit" = some m.cls := hown
  unfold f1_0 at hv
  show own_WP p e below _ T (mkF m 0 #[.val (.ref o0)] [])
  refine own_go (fun _ => XS.aloadN X.here hx rfl (hb hby d1_0) rfl rfl) ?_
  show own_WP p e below _ T (mkF m 1 #[.val (.ref o0)] [(.ref o0)])
  obtain ⟨T1, X1, e1, st1⟩ := initO X hx hZ hown (hw _ (List.mem_of_getElem? (i := 7) rfl)) (hw _ (List.mem_of_getElem? (i := 8) rfl)) (hw _ (List.mem_of_getElem? (i := 9) rfl)) e0 (g := (mkF m 1 #[.val (.ref o0)] [(.ref o0)])) rfl (by rw [hml]; rfl) rfl (hb hby d1_1) (by decide) (W := 0) (by show 2 * 0 + _ ≤ _; exact Nat.le_of_eq rfl) (by decide)
  refine own_go st1 ?_
  show own_WP p e below _ T1 (mkF m 4 #[.val (.ref o0)] [])
  refine own_go (fun _ => XS.aloadN X1.here hx rfl (hb hby d1_4) rfl rfl) ?_
  show own_WP p e below _ T1 (mkF m 5 #[.val (.ref o0)] [(.ref o0)])
  refine own_go (X1.ldc2Long hx hown (mvT hZ (hw _ (List.mem_of_getElem? (i := 10) rfl))) (g := (mkF m 5 #[.val (.ref o0)] [(.ref o0)])) rfl (hb hby d1_5)) ?_
  show own_WP p e below _ T1 (mkF m 8 #[.val (.ref o0)] [(.long (-1 : Int64)), (.ref o0)])
  obtain ⟨T2, h2, X2, e2, W2, st2⟩ := putF X1 hx hZ hown (host := "") (Or.inl (hw _ (List.mem_of_getElem? (i := 11) rfl))) Via.refl e1 F_o0_firstOverwriter E_o0 (Or.inl (hw _ (List.mem_of_getElem? (i := 12) rfl))) (hw _ (List.mem_of_getElem? (i := 2) rfl)) (ty := .long) (by decide) rfl rfl (g := (mkF m 8 #[.val (.ref o0)] [(.long (-1 : Int64)), (.ref o0)])) rfl rfl (hb hby d1_8)
  refine own_go st2 ?_
  replace E_o0 := E_o0.wr W2
  replace F_o0_firstOverwriter := F_o0_firstOverwriter.same W2
  replace K := K.wr W2 (Or.inl (List.mem_of_getElem? (i := 0) rfl))
  replace N := Fr.snoc X2 N (by omega)
  show own_WP p e below _ T2 (mkF m 11 #[.val (.ref o0)] [])
  obtain rfl := Option.some.inj hv
  subst e2
  exact own_retV X2 C (hb hby d1_11) (hP _ _ _ N K ⟨rfl, E_o0, F_o0_firstOverwriter⟩) (by decide) (by decide)
theorem ef1 (m : MethodId) (o0 : Addr) : entryFrame m #[(.ref o0)] 1 = (mkF m 0 #[.val (.ref o0)] []) := by first | (simp [entryFrame, mkF, argsToLocals, Value.category]; done) | rfl
theorem pd1 : parseMethodDescriptor "()V" = some ⟨[], none⟩ := by decide +kernel
theorem pn1 : plainFor (⟨"com/example/elis/elis/Commit", "<init>", "()V"⟩ : MethodName) = true := plainFor_of_name (by first | (simp [plainName, overriddenIn]; done) | decide +kernel)
theorem rm1 (l : Launch) (Z : State) (a0 : Array Value) (hw : ∀ d ∈ tables_1, d.before a0 Z = true) (n0 : Nat) (h0 : Heap) (Z0 : n0 ≤ h0.size) {o0 : Addr} {c_o0_firstOverwriter : Int64}  (g_o0 : n0 ≤ o0) (E_o0 : Exa Z h0 o0 "com/example/elis/elis/Commit") (F_o0_firstOverwriter : Fld Z h0 o0 "com/example/elis/elis/Commit" "firstOverwriter" "J" (.long c_o0_firstOverwriter))   (rr : Int64) (hf : f1_0 = some rr) :
    own_Met l Z (⟨"com/example/elis/elis/Commit", "<init>", "()V"⟩ : MethodName) prog_7_method_1_code 1 none [] rmR1 #[(.ref o0)] h0 (fun v h L => Fr n0 L ∧ Keep h0 h [o0] ∧ E1 Z h0 o0 rr v h) := by
  refine own_body pn1 ?_
  intro p e s m below meth c s₁ C X e0
  exact own_cast (ef1 m o0) (b1_0 hw C Z0 rr (fun v h L a b c => ⟨a, b, c⟩) X e0 (Fr.nil n0) (Keep.refl h0 [o0]) g_o0 E_o0 F_o0_firstOverwriter hf)
theorem d3_0 : decode prog_7_method_13_code 0 = .ok (.aload_n 0, 1) := by decide +kernel
theorem d3_1 : decode prog_7_method_13_code 1 = .ok (.getfield 11, 3) := by decide +kernel
theorem d3_4 : decode prog_7_method_13_code 4 = .ok (.lreturn, 1) := by decide +kernel
def rmR3 : Room := { frames := 0, cells := 0, slots := 0, locals := 0 }
def E3 (Z : State) (h0 : Heap) (o0 : Addr) (fo : Int64) (rr : Int64) (v : Option Value) (h : Heap) : Prop := v = some (.long rr)
def f3_0 (fo : Int64) : Option (Int64) := (some fo)
set_option maxRecDepth 65536 in
set_option maxHeartbeats 40000000 in
theorem b3_0 {p : Program} {l : Launch} {e : Env} {s : State} {m : MethodId} {args : Array Value} {below : List Frame} {meth : Method} {c : Code} {Z : State} {a0 : Array Value} {h0 : Heap} {n0 : Nat} {P : Option Value → Heap → List Loc → Prop} (hw : ∀ d ∈ tables_1, d.before a0 Z = true) (C : own_Ctx p s m meth c Z (⟨"com/example/elis/elis/Commit", "firstOverwriter", "()J"⟩ : MethodName) prog_7_method_13_code 1 (some .long)) (Z0 : n0 ≤ h0.size) {o0 : Addr} {fo : Int64} (rr : Int64) (hP : ∀ v h L, Fr n0 L → Keep h0 h [] → E3 Z h0 o0 fo rr v h → P v h L)
    {T : State} {locs : List Loc} {h : Heap} (X : Stand p l e rmR3 s m args below meth c T locs 0 0) (e0 : T.heap = h) (N : Fr n0 locs) (K : Keep h0 h []) (g_o0 : n0 ≤ o0) (E_o0 : Exa Z h o0 "com/example/elis/elis/Commit") (F_o0_firstOverwriter : Fld Z h o0 "com/example/elis/elis/Commit" "firstOverwriter" "J" (.long fo)) (hv : f3_0 fo = some rr) :
    own_WP p e below (own_Q s P rmR3.cells rmR3.slots) T (mkF m 0 #[.val (.ref o0)] []) := by
  obtain ⟨hx, hZ, hby, hml, hown, hnm, hret, hlk⟩ := id C
  replace hown : s.vm.findClass "com/example/elis/elis/Commit" = some m.cls := hown
  unfold f3_0 at hv
  show own_WP p e below _ T (mkF m 0 #[.val (.ref o0)] [])
  refine own_go (fun _ => XS.aloadN X.here hx rfl (hb hby d3_0) rfl rfl) ?_
  show own_WP p e below _ T (mkF m 1 #[.val (.ref o0)] [(.ref o0)])
  obtain ⟨T1, X1, e1, st1⟩ := getF X hx hZ hown (host := "") (Or.inl (hw _ (List.mem_of_getElem? (i := 11) rfl))) Via.refl e0 F_o0_firstOverwriter (g := (mkF m 1 #[.val (.ref o0)] [(.ref o0)])) rfl rfl (hb hby d3_1)
  refine own_go st1 ?_
  show own_WP p e below _ T1 (mkF m 4 #[.val (.ref o0)] [(.long fo)])
  obtain rfl := Option.some.inj hv
  subst e1
  exact own_retL X1 C (hb hby d3_4) (hP _ _ _ N K rfl) (by decide) (by decide)
theorem ef3 (m : MethodId) (o0 : Addr) : entryFrame m #[(.ref o0)] 1 = (mkF m 0 #[.val (.ref o0)] []) := by first | (simp [entryFrame, mkF, argsToLocals, Value.category]; done) | rfl
theorem pd3 : parseMethodDescriptor "()J" = some ⟨[], some .long⟩ := by decide +kernel
theorem pn3 : plainFor (⟨"com/example/elis/elis/Commit", "firstOverwriter", "()J"⟩ : MethodName) = true := plainFor_of_name (by first | (simp [plainName, overriddenIn]; done) | decide +kernel)
theorem rm3 (l : Launch) (Z : State) (a0 : Array Value) (hw : ∀ d ∈ tables_1, d.before a0 Z = true) (n0 : Nat) (h0 : Heap) (Z0 : n0 ≤ h0.size) {o0 : Addr} {fo : Int64}  (g_o0 : n0 ≤ o0) (E_o0 : Exa Z h0 o0 "com/example/elis/elis/Commit") (F_o0_firstOverwriter : Fld Z h0 o0 "com/example/elis/elis/Commit" "firstOverwriter" "J" (.long fo))   (rr : Int64) (hf : f3_0 fo = some rr) :
    own_Met l Z (⟨"com/example/elis/elis/Commit", "firstOverwriter", "()J"⟩ : MethodName) prog_7_method_13_code 1 (some .long) [] rmR3 #[(.ref o0)] h0 (fun v h L => Fr n0 L ∧ Keep h0 h [] ∧ E3 Z h0 o0 fo rr v h) := by
  refine own_body pn3 ?_
  intro p e s m below meth c s₁ C X e0
  exact own_cast (ef3 m o0) (b3_0 hw C Z0 rr (fun v h L a b c => ⟨a, b, c⟩) X e0 (Fr.nil n0) (Keep.refl h0 []) g_o0 E_o0 F_o0_firstOverwriter hf)
theorem d4_0 : decode prog_7_method_14_code 0 = .ok (.aload_n 0, 1) := by decide +kernel
theorem d4_1 : decode prog_7_method_14_code 1 = .ok (.getfield 11, 3) := by decide +kernel
theorem d4_4 : decode prog_7_method_14_code 4 = .ok (.ldc2_w 9, 3) := by decide +kernel
theorem d4_7 : decode prog_7_method_14_code 7 = .ok (.lcmp, 1) := by decide +kernel
theorem d4_8 : decode prog_7_method_14_code 8 = .ok (.ifCond .eq 12, 3) := by decide +kernel
theorem d4_11 : decode prog_7_method_14_code 11 = .ok (.lload_n 1, 1) := by decide +kernel
theorem d4_12 : decode prog_7_method_14_code 12 = .ok (.aload_n 0, 1) := by decide +kernel
theorem d4_13 : decode prog_7_method_14_code 13 = .ok (.getfield 11, 3) := by decide +kernel
theorem d4_16 : decode prog_7_method_14_code 16 = .ok (.lcmp, 1) := by decide +kernel
theorem d4_17 : decode prog_7_method_14_code 17 = .ok (.ifCond .ge 8, 3) := by decide +kernel
theorem d4_20 : decode prog_7_method_14_code 20 = .ok (.aload_n 0, 1) := by decide +kernel
theorem d4_21 : decode prog_7_method_14_code 21 = .ok (.lload_n 1, 1) := by decide +kernel
theorem d4_22 : decode prog_7_method_14_code 22 = .ok (.putfield 11, 3) := by decide +kernel
theorem d4_25 : decode prog_7_method_14_code 25 = .ok (.return_, 1) := by decide +kernel
def rmR4 : Room := { frames := 0, cells := 0, slots := 0, locals := 0 }
def E4 (Z : State) (h0 : Heap) (o0 : Addr)  (rr : Int64) (v : Option Value) (h : Heap) : Prop := v = none ∧ Exa Z h o0 "com/example/elis/elis/Commit" ∧ Fld Z h o0 "com/example/elis/elis/Commit" "firstOverwriter" "J" (.long rr)
def f4_20 (x1 : Int64) : Option (Int64) := (some x1)
set_option maxRecDepth 65536 in
set_option maxHeartbeats 40000000 in
theorem b4_20 {p : Program} {l : Launch} {e : Env} {s : State} {m : MethodId} {args : Array Value} {below : List Frame} {meth : Method} {c : Code} {Z : State} {a0 : Array Value} {h0 : Heap} {n0 : Nat} {P : Option Value → Heap → List Loc → Prop} (hw : ∀ d ∈ tables_1, d.before a0 Z = true) (C : own_Ctx p s m meth c Z (⟨"com/example/elis/elis/Commit", "overwrittenBy", "(J)V"⟩ : MethodName) prog_7_method_14_code 3 none) (Z0 : n0 ≤ h0.size) {o0 : Addr}  (rr : Int64) (hP : ∀ v h L, Fr n0 L → Keep h0 h [o0] → E4 Z h0 o0 rr v h → P v h L)
    {T : State} {locs : List Loc} {h : Heap} {c_o0_firstOverwriter : Int64} (X : Stand p l e rmR4 s m args below meth c T locs 0 0) (e0 : T.heap = h) (N : Fr n0 locs) (K : Keep h0 h [o0]) (g_o0 : n0 ≤ o0) (E_o0 : Exa Z h o0 "com/example/elis/elis/Commit") (F_o0_firstOverwriter : Fld Z h o0 "com/example/elis/elis/Commit" "firstOverwriter" "J" (.long c_o0_firstOverwriter)) (x1 : Int64) (hv : f4_20 x1 = some rr) :
    own_WP p e below (own_Q s P rmR4.cells rmR4.slots) T (mkF m 20 #[.val (.ref o0), .val (.long x1), .second] []) := by
  obtain ⟨hx, hZ, hby, hml, hown, hnm, hret, hlk⟩ := id C
  replace hown : s.vm.findClass "com/example/elis/elis/Commit" = some m.cls := hown
  unfold f4_20 at hv
  show own_WP p e below _ T (mkF m 20 #[.val (.ref o0), .val (.long x1), .second] [])
  refine own_go (fun _ => XS.aloadN X.here hx rfl (hb hby d4_20) rfl rfl) ?_
  show own_WP p e below _ T (mkF m 21 #[.val (.ref o0), .val (.long x1), .second] [(.ref o0)])
  refine own_go (fun _ => XS.lloadN X.here hx rfl (hb hby d4_21) rfl) ?_
  show own_WP p e below _ T (mkF m 22 #[.val (.ref o0), .val (.long x1), .second] [(.long x1), (.ref o0)])
  obtain ⟨T2, h2, X2, e2, W2, st2⟩ := putF X hx hZ hown (host := "") (Or.inl (hw _ (List.mem_of_getElem? (i := 11) rfl))) Via.refl e0 F_o0_firstOverwriter E_o0 (Or.inl (hw _ (List.mem_of_getElem? (i := 12) rfl))) (hw _ (List.mem_of_getElem? (i := 2) rfl)) (ty := .long) (by decide) rfl rfl (g := (mkF m 22 #[.val (.ref o0), .val (.long x1), .second] [(.long x1), (.ref o0)])) rfl rfl (hb hby d4_22)
  refine own_go st2 ?_
  replace E_o0 := E_o0.wr W2
  replace F_o0_firstOverwriter := F_o0_firstOverwriter.same W2
  replace K := K.wr W2 (Or.inl (List.mem_of_getElem? (i := 0) rfl))
  replace N := Fr.snoc X2 N (by omega)
  show own_WP p e below _ T2 (mkF m 25 #[.val (.ref o0), .val (.long x1), .second] [])
  obtain rfl := Option.some.inj hv
  subst e2
  exact own_retV X2 C (hb hby d4_25) (hP _ _ _ N K ⟨rfl, E_o0, F_o0_firstOverwriter⟩) (by decide) (by decide)
def f4_0 (c_o0_firstOverwriter : Int64) (x1 : Int64) : Option (Int64) := (if c_o0_firstOverwriter = (-1 : Int64) then (f4_20 x1) else (if x1 < c_o0_firstOverwriter then (f4_20 x1) else (some c_o0_firstOverwriter)))
set_option maxRecDepth 65536 in
set_option maxHeartbeats 40000000 in
theorem b4_0 {p : Program} {l : Launch} {e : Env} {s : State} {m : MethodId} {args : Array Value} {below : List Frame} {meth : Method} {c : Code} {Z : State} {a0 : Array Value} {h0 : Heap} {n0 : Nat} {P : Option Value → Heap → List Loc → Prop} (hw : ∀ d ∈ tables_1, d.before a0 Z = true) (C : own_Ctx p s m meth c Z (⟨"com/example/elis/elis/Commit", "overwrittenBy", "(J)V"⟩ : MethodName) prog_7_method_14_code 3 none) (Z0 : n0 ≤ h0.size) {o0 : Addr}  (rr : Int64) (hP : ∀ v h L, Fr n0 L → Keep h0 h [o0] → E4 Z h0 o0 rr v h → P v h L)
    {T : State} {locs : List Loc} {h : Heap} {c_o0_firstOverwriter : Int64} (X : Stand p l e rmR4 s m args below meth c T locs 0 0) (e0 : T.heap = h) (N : Fr n0 locs) (K : Keep h0 h [o0]) (g_o0 : n0 ≤ o0) (E_o0 : Exa Z h o0 "com/example/elis/elis/Commit") (F_o0_firstOverwriter : Fld Z h o0 "com/example/elis/elis/Commit" "firstOverwriter" "J" (.long c_o0_firstOverwriter)) (x1 : Int64) (hv : f4_0 c_o0_firstOverwriter x1 = some rr) :
    own_WP p e below (own_Q s P rmR4.cells rmR4.slots) T (mkF m 0 #[.val (.ref o0), .val (.long x1), .second] []) := by
  obtain ⟨hx, hZ, hby, hml, hown, hnm, hret, hlk⟩ := id C
  replace hown : s.vm.findClass "com/example/elis/elis/Commit" = some m.cls := hown
  unfold f4_0 at hv
  show own_WP p e below _ T (mkF m 0 #[.val (.ref o0), .val (.long x1), .second] [])
  refine own_go (fun _ => XS.aloadN X.here hx rfl (hb hby d4_0) rfl rfl) ?_
  show own_WP p e below _ T (mkF m 1 #[.val (.ref o0), .val (.long x1), .second] [(.ref o0)])
  obtain ⟨T1, X1, e1, st1⟩ := getF X hx hZ hown (host := "") (Or.inl (hw _ (List.mem_of_getElem? (i := 11) rfl))) Via.refl e0 F_o0_firstOverwriter (g := (mkF m 1 #[.val (.ref o0), .val (.long x1), .second] [(.ref o0)])) rfl rfl (hb hby d4_1)
  refine own_go st1 ?_
  show own_WP p e below _ T1 (mkF m 4 #[.val (.ref o0), .val (.long x1), .second] [(.long c_o0_firstOverwriter)])
  refine own_go (X1.ldc2Long hx hown (mvT hZ (hw _ (List.mem_of_getElem? (i := 10) rfl))) (g := (mkF m 4 #[.val (.ref o0), .val (.long x1), .second] [(.long c_o0_firstOverwriter)])) rfl (hb hby d4_4)) ?_
  show own_WP p e below _ T1 (mkF m 7 #[.val (.ref o0), .val (.long x1), .second] [(.long (-1 : Int64)), (.long c_o0_firstOverwriter)])
  refine own_go (fun _ => XT.lcmp X1.here hx rfl (hb hby d4_7) rfl) ?_
  show own_WP p e below _ T1 (mkF m 8 #[.val (.ref o0), .val (.long x1), .second] [(.int (XT.cmpL c_o0_firstOverwriter (-1 : Int64)))])
  by_cases h8 : c_o0_firstOverwriter = (-1 : Int64)
  · replace hv := (if_pos h8).symm.trans hv
    refine own_go (fun _ => XS.ifYes X1.here hx rfl (pc0 := 8) (pc' := 20) rfl (hb hby d4_8) rfl (XT.ll_eq_t h8) (by decide) (by decide)) ?_
    exact b4_20 hw C Z0 rr hP X1 e1 N K g_o0 E_o0 F_o0_firstOverwriter x1 hv
  · replace hv := (if_neg h8).symm.trans hv
    refine own_go (fun _ => XS.ifNo X1.here hx rfl (hb hby d4_8) rfl (XT.ll_eq_f h8)) ?_
    show own_WP p e below _ T1 (mkF m 11 #[.val (.ref o0), .val (.long x1), .second] [])
    refine own_go (fun _ => XS.lloadN X1.here hx rfl (hb hby d4_11) rfl) ?_
    show own_WP p e below _ T1 (mkF m 12 #[.val (.ref o0), .val (.long x1), .second] [(.long x1)])
    refine own_go (fun _ => XS.aloadN X1.here hx rfl (hb hby d4_12) rfl rfl) ?_
    show own_WP p e below _ T1 (mkF m 13 #[.val (.ref o0), .val (.long x1), .second] [(.ref o0), (.long x1)])
    obtain ⟨T3, X3, e3, st3⟩ := getF X1 hx hZ hown (host := "") (Or.inl (hw _ (List.mem_of_getElem? (i := 11) rfl))) Via.refl e1 F_o0_firstOverwriter (g := (mkF m 13 #[.val (.ref o0), .val (.long x1), .second] [(.ref o0), (.long x1)])) rfl rfl (hb hby d4_13)
    refine own_go st3 ?_
    show own_WP p e below _ T3 (mkF m 16 #[.val (.ref o0), .val (.long x1), .second] [(.long c_o0_firstOverwriter), (.long x1)])
    refine own_go (fun _ => XT.lcmp X3.here hx rfl (hb hby d4_16) rfl) ?_
    show own_WP p e below _ T3 (mkF m 17 #[.val (.ref o0), .val (.long x1), .second] [(.int (XT.cmpL x1 c_o0_firstOverwriter))])
    by_cases h17 : x1 < c_o0_firstOverwriter
    · replace hv := (if_pos h17).symm.trans hv
      refine own_go (fun _ => XS.ifNo X3.here hx rfl (hb hby d4_17) rfl (XT.ll_ge_f h17)) ?_
      exact b4_20 hw C Z0 rr hP X3 e3 N K g_o0 E_o0 F_o0_firstOverwriter x1 hv
    · replace hv := (if_neg h17).symm.trans hv
      refine own_go (fun _ => XS.ifYes X3.here hx rfl (pc0 := 17) (pc' := 25) rfl (hb hby d4_17) rfl (XT.ll_ge_t h17) (by decide) (by decide)) ?_
      show own_WP p e below _ T3 (mkF m 25 #[.val (.ref o0), .val (.long x1), .second] [])
      obtain rfl := Option.some.inj hv
      subst e3
      exact own_retV X3 C (hb hby d4_25) (hP _ _ _ N K ⟨rfl, E_o0, F_o0_firstOverwriter⟩) (by decide) (by decide)
theorem ef4 (m : MethodId) (o0 : Addr) (x1 : Int64) : entryFrame m #[(.ref o0), (.long x1)] 3 = (mkF m 0 #[.val (.ref o0), .val (.long x1), .second] []) := by first | (simp [entryFrame, mkF, argsToLocals, Value.category]; done) | rfl
theorem pd4 : parseMethodDescriptor "(J)V" = some ⟨[.long], none⟩ := by decide +kernel
theorem pn4 : plainFor (⟨"com/example/elis/elis/Commit", "overwrittenBy", "(J)V"⟩ : MethodName) = true := plainFor_of_name (by first | (simp [plainName, overriddenIn]; done) | decide +kernel)
theorem rm4 (l : Launch) (Z : State) (a0 : Array Value) (hw : ∀ d ∈ tables_1, d.before a0 Z = true) (n0 : Nat) (h0 : Heap) (Z0 : n0 ≤ h0.size) {o0 : Addr} {c_o0_firstOverwriter : Int64}  (g_o0 : n0 ≤ o0) (E_o0 : Exa Z h0 o0 "com/example/elis/elis/Commit") (F_o0_firstOverwriter : Fld Z h0 o0 "com/example/elis/elis/Commit" "firstOverwriter" "J" (.long c_o0_firstOverwriter)) (x1 : Int64)  (rr : Int64) (hf : f4_0 c_o0_firstOverwriter x1 = some rr) :
    own_Met l Z (⟨"com/example/elis/elis/Commit", "overwrittenBy", "(J)V"⟩ : MethodName) prog_7_method_14_code 3 none [] rmR4 #[(.ref o0), (.long x1)] h0 (fun v h L => Fr n0 L ∧ Keep h0 h [o0] ∧ E4 Z h0 o0 rr v h) := by
  refine own_body pn4 ?_
  intro p e s m below meth c s₁ C X e0
  exact own_cast (ef4 m o0 x1) (b4_0 hw C Z0 rr (fun v h L a b c => ⟨a, b, c⟩) X e0 (Fr.nil n0) (Keep.refl h0 [o0]) g_o0 E_o0 F_o0_firstOverwriter x1 hf)
def E0 (Z : State) (h0 : Heap)   (rr : Int32) (v : Option Value) (h : Heap) : Prop := v = some (.int rr)
def f0_159  : Option (Int32) := (some (0 : Int32))
set_option maxRecDepth 65536 in
set_option maxHeartbeats 40000000 in
theorem b0_159 {p : Program} {l : Launch} {e : Env} {s : State} {m : MethodId} {args : Array Value} {below : List Frame} {meth : Method} {c : Code} {Z : State} {a0 : Array Value} {h0 : Heap} {n0 : Nat} {P : Option Value → Heap → List Loc → Prop} (hw : ∀ d ∈ tables_1, d.before a0 Z = true) (C : own_Ctx p s m meth c Z x code maxLocals ret) (Z0 : n0 ≤ h0.size)   (rr : Int32) (hP : ∀ v h L, Fr n0 L → Keep h0 h [] → E0 Z h0  rr v h → P v h L)
    {T : State} {locs : List Loc} {h : Heap} {b22 : Addr} {c_b22_firstOverwriter : Int64} (X : Stand p l e room_1 s m args below meth c T locs 1 8) (e0 : T.heap = h) (N : Fr n0 locs) (K : Keep h0 h []) (g_b22 : n0 ≤ b22) (z_b22 : h0.size ≤ b22) (E_b22 : Exa Z h b22 "com/example/elis/elis/Commit") (F_b22_firstOverwriter : Fld Z h b22 "com/example/elis/elis/Commit" "firstOverwriter" "J" (.long c_b22_firstOverwriter)) (x0 : Int64) (x2 : Int64) (x4 : Int64) (x6 : Int64) (x8 : Int64) (x10 : Int64) (s12 : Slot) (hs12 : One s12) (x13 : Int32) (x14 : Int64) (x16 : Int64) (x18 : Int64) (hv : f0_159 = some rr) :
    own_WP p e below (own_Q s P room_1.cells room_1.slots) T (mkF m 159 #[.val (.long x0), .second, .val (.long x2), .second, .val (.long x4), .second, .val (.long x6), .second, .val (.long x8), .second, .val (.long x10), .second, s12, .val (.int x13), .val (.long x14), .second, .val (.long x16), .second, .val (.long x18), .second] []) := by
  obtain ⟨hx, hZ, hby, hml, hown, hnm, hret, hlk⟩ := id C
  replace hown : s.vm.findClass "com/example/elis/elis/CommitOverwrittenByPinLaw" = some m.cls := hown
  unfold f0_159 at hv
  show own_WP p e below _ T (mkF m 159 #[.val (.long x0), .second, .val (.long x2), .second, .val (.long x4), .second, .val (.long x6), .second, .val (.long x8), .second, .val (.long x10), .second, s12, .val (.int x13), .val (.long x14), .second, .val (.long x16), .second, .val (.long x18), .second] [])
  refine own_go (fun _ => XS.iconst X.here hx rfl (hb hby at_159)) ?_
  show own_WP p e below _ T (mkF m 160 #[.val (.long x0), .second, .val (.long x2), .second, .val (.long x4), .second, .val (.long x6), .second, .val (.long x8), .second, .val (.long x10), .second, s12, .val (.int x13), .val (.long x14), .second, .val (.long x16), .second, .val (.long x18), .second] [(.int (0 : Int32))])
  refine own_go (fun _ => XS.istore X.here hx rfl (hb hby at_160) rfl (l' := #[.val (.long x0), .second, .val (.long x2), .second, .val (.long x4), .second, .val (.long x6), .second, .val (.long x8), .second, .val (.long x10), .second, s12, .val (.int (0 : Int32)), .val (.long x14), .second, .val (.long x16), .second, .val (.long x18), .second]) rfl) ?_
  show own_WP p e below _ T (mkF m 162 #[.val (.long x0), .second, .val (.long x2), .second, .val (.long x4), .second, .val (.long x6), .second, .val (.long x8), .second, .val (.long x10), .second, s12, .val (.int (0 : Int32)), .val (.long x14), .second, .val (.long x16), .second, .val (.long x18), .second] [])
  refine own_go (fun _ => XS.iload X.here hx rfl (hb hby at_162) rfl) ?_
  show own_WP p e below _ T (mkF m 164 #[.val (.long x0), .second, .val (.long x2), .second, .val (.long x4), .second, .val (.long x6), .second, .val (.long x8), .second, .val (.long x10), .second, s12, .val (.int (0 : Int32)), .val (.long x14), .second, .val (.long x16), .second, .val (.long x18), .second] [(.int (0 : Int32))])
  obtain rfl := Option.some.inj hv
  subst e0
  exact own_retN X C (by simp) (hb hby at_164) (hP _ _ _ N K rfl) (by decide) (by decide)
def f0_121 (c_b22_firstOverwriter : Int64) (x10 : Int64) (x16 : Int64) (t0 : Int32) : Option (Int32) := ((f4_0 c_b22_firstOverwriter x10).bind fun rr7 => (if t0 = (0 : Int32) then f0_159 else ((f3_0 rr7).bind fun rr9 => (if rr9 = (f5_0 x16 x10) then (some (1 : Int32)) else f0_159))))
set_option maxRecDepth 65536 in
set_option maxHeartbeats 40000000 in
theorem b0_121 {p : Program} {l : Launch} {e : Env} {s : State} {m : MethodId} {args : Array Value} {below : List Frame} {meth : Method} {c : Code} {Z : State} {a0 : Array Value} {h0 : Heap} {n0 : Nat} {P : Option Value → Heap → List Loc → Prop} (hw : ∀ d ∈ tables_1, d.before a0 Z = true) (C : own_Ctx p s m meth c Z x code maxLocals ret) (Z0 : n0 ≤ h0.size)   (rr : Int32) (hP : ∀ v h L, Fr n0 L → Keep h0 h [] → E0 Z h0  rr v h → P v h L)
    {T : State} {locs : List Loc} {h : Heap} {b22 : Addr} {c_b22_firstOverwriter : Int64} (X : Stand p l e room_1 s m args below meth c T locs 1 8) (e0 : T.heap = h) (N : Fr n0 locs) (K : Keep h0 h []) (g_b22 : n0 ≤ b22) (z_b22 : h0.size ≤ b22) (E_b22 : Exa Z h b22 "com/example/elis/elis/Commit") (F_b22_firstOverwriter : Fld Z h b22 "com/example/elis/elis/Commit" "firstOverwriter" "J" (.long c_b22_firstOverwriter)) (x0 : Int64) (x2 : Int64) (x4 : Int64) (x6 : Int64) (x8 : Int64) (x10 : Int64) (x13 : Int32) (x14 : Int64) (x16 : Int64) (t0 : Int32) (hv : f0_121 c_b22_firstOverwriter x10 x16 t0 = some rr) :
    own_WP p e below (own_Q s P room_1.cells room_1.slots) T (mkF m 121 #[.val (.long x0), .second, .val (.long x2), .second, .val (.long x4), .second, .val (.long x6), .second, .val (.long x8), .second, .val (.long x10), .second, .val (.ref b22), .val (.int x13), .val (.long x14), .second, .val (.long x16), .second, .unset, .unset] [(.int t0)]) := by
  obtain ⟨hx, hZ, hby, hml, hown, hnm, hret, hlk⟩ := id C
  replace hown : s.vm.findClass "com/example/elis/elis/CommitOverwrittenByPinLaw" = some m.cls := hown
  unfold f0_121 at hv
  show own_WP p e below _ T (mkF m 121 #[.val (.long x0), .second, .val (.long x2), .second, .val (.long x4), .second, .val (.long x6), .second, .val (.long x8), .second, .val (.long x10), .second, .val (.ref b22), .val (.int x13), .val (.long x14), .second, .val (.long x16), .second, .unset, .unset] [(.int t0)])
  refine own_go (fun _ => XS.istore X.here hx rfl (hb hby at_121) rfl (l' := #[.val (.long x0), .second, .val (.long x2), .second, .val (.long x4), .second, .val (.long x6), .second, .val (.long x8), .second, .val (.long x10), .second, .val (.ref b22), .val (.int t0), .val (.long x14), .second, .val (.long x16), .second, .unset, .unset]) rfl) ?_
  show own_WP p e below _ T (mkF m 123 #[.val (.long x0), .second, .val (.long x2), .second, .val (.long x4), .second, .val (.long x6), .second, .val (.long x8), .second, .val (.long x10), .second, .val (.ref b22), .val (.int t0), .val (.long x14), .second, .val (.long x16), .second, .unset, .unset] [])
  refine own_go (fun _ => XS.aload X.here hx rfl (hb hby at_123) rfl rfl) ?_
  show own_WP p e below _ T (mkF m 125 #[.val (.long x0), .second, .val (.long x2), .second, .val (.long x4), .second, .val (.long x6), .second, .val (.long x8), .second, .val (.long x10), .second, .val (.ref b22), .val (.int t0), .val (.long x14), .second, .val (.long x16), .second, .unset, .unset] [(.ref b22)])
  refine own_go (fun _ => XS.lload X.here hx rfl (hb hby at_125) rfl) ?_
  show own_WP p e below _ T (mkF m 127 #[.val (.long x0), .second, .val (.long x2), .second, .val (.long x4), .second, .val (.long x6), .second, .val (.long x8), .second, .val (.long x10), .second, .val (.ref b22), .val (.int t0), .val (.long x14), .second, .val (.long x16), .second, .unset, .unset] [(.long x10), (.ref b22)])
  obtain ⟨rr7, hf7, hv⟩ := own_bind hv
  obtain ⟨T7, v7, L7, X7, ⟨N7, K7, Q7⟩, st7⟩ := own_callV X C (a := b22) (argsL := [(.long x10)]) (rm4 l Z a0 hw n0 h (by have q := K.1; omega) (by omega) E_b22 F_b22_firstOverwriter x10 rr7 hf7) (hw _ (List.mem_of_getElem? (i := 19) rfl)) (hw _ (List.mem_of_getElem? (i := 20) rfl)) (hw _ (List.mem_of_getElem? (i := 22) rfl)) (hw _ (List.mem_of_getElem? (i := 21) rfl)) (hw _ (List.mem_of_getElem? (i := 3) rfl)) (hw _ (List.mem_of_getElem? (i := 23) rfl)) (by decide) e0 E_b22 (W := 0) (pc := 127) (Ls := #[.val (.long x0), .second, .val (.long x2), .second, .val (.long x4), .second, .val (.long x6), .second, .val (.long x8), .second, .val (.long x10), .second, .val (.ref b22), .val (.int t0), .val (.long x14), .second, .val (.long x16), .second, .unset, .unset]) rfl (lenOf pd4 rfl) (rest := []) (stk := [(.long x10), (.ref b22)]) rfl (Nat.le_of_ble_eq_true rfl) (hb hby at_127) (by decide) (by decide) (by decide) (by decide)
  replace N := Fr.app N N7
  clear E_b22
  clear F_b22_firstOverwriter
  obtain ⟨rfl, E_b22, F_b22_firstOverwriter⟩ := Q7
  replace K := K.trans K7 (allS (Or.inr (by omega)) all0)
  refine own_go st7 ?_
  show own_WP p e below _ T7 (mkF m 130 #[.val (.long x0), .second, .val (.long x2), .second, .val (.long x4), .second, .val (.long x6), .second, .val (.long x8), .second, .val (.long x10), .second, .val (.ref b22), .val (.int t0), .val (.long x14), .second, .val (.long x16), .second, .unset, .unset] [])
  refine own_go (fun _ => XS.lload X7.here hx rfl (hb hby at_130) rfl) ?_
  show own_WP p e below _ T7 (mkF m 132 #[.val (.long x0), .second, .val (.long x2), .second, .val (.long x4), .second, .val (.long x6), .second, .val (.long x8), .second, .val (.long x10), .second, .val (.ref b22), .val (.int t0), .val (.long x14), .second, .val (.long x16), .second, .unset, .unset] [(.long x16)])
  refine own_go (fun _ => XS.lload X7.here hx rfl (hb hby at_132) rfl) ?_
  show own_WP p e below _ T7 (mkF m 134 #[.val (.long x0), .second, .val (.long x2), .second, .val (.long x4), .second, .val (.long x6), .second, .val (.long x8), .second, .val (.long x10), .second, .val (.ref b22), .val (.int t0), .val (.long x14), .second, .val (.long x16), .second, .unset, .unset] [(.long x10), (.long x16)])
  obtain ⟨T8, v8, L8, X8, ⟨rfl, rfl, e8⟩, st8⟩ := own_callS X7 C (rm5 l Z a0 hw x16 x10 T7.heap) (hw _ (List.mem_of_getElem? (i := 24) rfl)) (hw _ (List.mem_of_getElem? (i := 25) rfl)) (hw _ (List.mem_of_getElem? (i := 26) rfl)) (hw _ (List.mem_of_getElem? (i := 27) rfl)) (by decide) (rfl : T7.heap = T7.heap) (W := 0) (pc := 134) (Ls := #[.val (.long x0), .second, .val (.long x2), .second, .val (.long x4), .second, .val (.long x6), .second, .val (.long x8), .second, .val (.long x10), .second, .val (.ref b22), .val (.int t0), .val (.long x14), .second, .val (.long x16), .second, .unset, .unset]) rfl (lenOf pd5 rfl) (rest := []) (stk := [(.long x10), (.long x16)]) rfl (Nat.le_of_ble_eq_true rfl) (hb hby at_134) (by decide) (by decide) (by decide) (by decide)
  rw [List.append_nil] at X8
  refine own_go st8 ?_
  show own_WP p e below _ T8 (mkF m 137 #[.val (.long x0), .second, .val (.long x2), .second, .val (.long x4), .second, .val (.long x6), .second, .val (.long x8), .second, .val (.long x10), .second, .val (.ref b22), .val (.int t0), .val (.long x14), .second, .val (.long x16), .second, .unset, .unset] [(.long (f5_0 x16 x10))])
  refine own_go (fun _ => XS.lstore X8.here hx rfl (hb hby at_137) rfl (l' := #[.val (.long x0), .second, .val (.long x2), .second, .val (.long x4), .second, .val (.long x6), .second, .val (.long x8), .second, .val (.long x10), .second, .val (.ref b22), .val (.int t0), .val (.long x14), .second, .val (.long x16), .second, .val (.long (f5_0 x16 x10)), .second]) rfl) ?_
  show own_WP p e below _ T8 (mkF m 139 #[.val (.long x0), .second, .val (.long x2), .second, .val (.long x4), .second, .val (.long x6), .second, .val (.long x8), .second, .val (.long x10), .second, .val (.ref b22), .val (.int t0), .val (.long x14), .second, .val (.long x16), .second, .val (.long (f5_0 x16 x10)), .second] [])
  refine own_go (fun _ => XS.iload X8.here hx rfl (hb hby at_139) rfl) ?_
  show own_WP p e below _ T8 (mkF m 141 #[.val (.long x0), .second, .val (.long x2), .second, .val (.long x4), .second, .val (.long x6), .second, .val (.long x8), .second, .val (.long x10), .second, .val (.ref b22), .val (.int t0), .val (.long x14), .second, .val (.long x16), .second, .val (.long (f5_0 x16 x10)), .second] [(.int t0)])
  by_cases h141 : t0 = (0 : Int32)
  · replace hv := (if_pos h141).symm.trans hv
    refine own_go (fun _ => XS.ifYes X8.here hx rfl (pc0 := 141) (pc' := 159) rfl (hb hby at_141) rfl (XT.i0_eq_t h141) (by decide) (by decide)) ?_
    exact b0_159 hw C Z0 rr hP X8 e8 N K g_b22 z_b22 E_b22 F_b22_firstOverwriter x0 x2 x4 x6 x8 x10 (.val (.ref b22)) (One.val rfl) t0 x14 x16 (f5_0 x16 x10) hv
  · replace hv := (if_neg h141).symm.trans hv
    refine own_go (fun _ => XS.ifNo X8.here hx rfl (hb hby at_141) rfl (XT.i0_eq_f h141)) ?_
    show own_WP p e below _ T8 (mkF m 144 #[.val (.long x0), .second, .val (.long x2), .second, .val (.long x4), .second, .val (.long x6), .second, .val (.long x8), .second, .val (.long x10), .second, .val (.ref b22), .val (.int t0), .val (.long x14), .second, .val (.long x16), .second, .val (.long (f5_0 x16 x10)), .second] [])
    refine own_go (fun _ => XS.aload X8.here hx rfl (hb hby at_144) rfl rfl) ?_
    show own_WP p e below _ T8 (mkF m 146 #[.val (.long x0), .second, .val (.long x2), .second, .val (.long x4), .second, .val (.long x6), .second, .val (.long x8), .second, .val (.long x10), .second, .val (.ref b22), .val (.int t0), .val (.long x14), .second, .val (.long x16), .second, .val (.long (f5_0 x16 x10)), .second] [(.ref b22)])
    obtain ⟨rr9, hf9, hv⟩ := own_bind hv
    obtain ⟨T9, v9, L9, X9, ⟨N9, K9, Q9⟩, st9⟩ := own_callV X8 C (a := b22) (argsL := []) (rm3 l Z a0 hw n0 T7.heap (by have q := K.1; omega) (by omega) E_b22 F_b22_firstOverwriter rr9 hf9) (hw _ (List.mem_of_getElem? (i := 13) rfl)) (hw _ (List.mem_of_getElem? (i := 14) rfl)) (hw _ (List.mem_of_getElem? (i := 16) rfl)) (hw _ (List.mem_of_getElem? (i := 15) rfl)) (hw _ (List.mem_of_getElem? (i := 3) rfl)) (hw _ (List.mem_of_getElem? (i := 17) rfl)) (by decide) e8 E_b22 (W := 0) (pc := 146) (Ls := #[.val (.long x0), .second, .val (.long x2), .second, .val (.long x4), .second, .val (.long x6), .second, .val (.long x8), .second, .val (.long x10), .second, .val (.ref b22), .val (.int t0), .val (.long x14), .second, .val (.long x16), .second, .val (.long (f5_0 x16 x10)), .second]) rfl (lenOf pd3 rfl) (rest := []) (stk := [(.ref b22)]) rfl (Nat.le_of_ble_eq_true rfl) (hb hby at_146) (by decide) (by decide) (by decide) (by decide)
    replace N := Fr.app N N9
    replace E_b22 := E_b22.keep K9
    replace F_b22_firstOverwriter := F_b22_firstOverwriter.keep K9 nin0
    obtain ⟨rfl⟩ := Q9
    replace K := K.trans K9 all0
    refine own_go st9 ?_
    show own_WP p e below _ T9 (mkF m 149 #[.val (.long x0), .second, .val (.long x2), .second, .val (.long x4), .second, .val (.long x6), .second, .val (.long x8), .second, .val (.long x10), .second, .val (.ref b22), .val (.int t0), .val (.long x14), .second, .val (.long x16), .second, .val (.long (f5_0 x16 x10)), .second] [(.long rr9)])
    refine own_go (fun _ => XS.lload X9.here hx rfl (hb hby at_149) rfl) ?_
    show own_WP p e below _ T9 (mkF m 151 #[.val (.long x0), .second, .val (.long x2), .second, .val (.long x4), .second, .val (.long x6), .second, .val (.long x8), .second, .val (.long x10), .second, .val (.ref b22), .val (.int t0), .val (.long x14), .second, .val (.long x16), .second, .val (.long (f5_0 x16 x10)), .second] [(.long (f5_0 x16 x10)), (.long rr9)])
    refine own_go (fun _ => XT.lcmp X9.here hx rfl (hb hby at_151) rfl) ?_
    show own_WP p e below _ T9 (mkF m 152 #[.val (.long x0), .second, .val (.long x2), .second, .val (.long x4), .second, .val (.long x6), .second, .val (.long x8), .second, .val (.long x10), .second, .val (.ref b22), .val (.int t0), .val (.long x14), .second, .val (.long x16), .second, .val (.long (f5_0 x16 x10)), .second] [(.int (XT.cmpL rr9 (f5_0 x16 x10)))])
    by_cases h152 : rr9 = (f5_0 x16 x10)
    · replace hv := (if_pos h152).symm.trans hv
      refine own_go (fun _ => XS.ifNo X9.here hx rfl (hb hby at_152) rfl (XT.ll_ne_f h152)) ?_
      show own_WP p e below _ T9 (mkF m 155 #[.val (.long x0), .second, .val (.long x2), .second, .val (.long x4), .second, .val (.long x6), .second, .val (.long x8), .second, .val (.long x10), .second, .val (.ref b22), .val (.int t0), .val (.long x14), .second, .val (.long x16), .second, .val (.long (f5_0 x16 x10)), .second] [])
      refine own_go (fun _ => XS.iconst X9.here hx rfl (hb hby at_155)) ?_
      show own_WP p e below _ T9 (mkF m 156 #[.val (.long x0), .second, .val (.long x2), .second, .val (.long x4), .second, .val (.long x6), .second, .val (.long x8), .second, .val (.long x10), .second, .val (.ref b22), .val (.int t0), .val (.long x14), .second, .val (.long x16), .second, .val (.long (f5_0 x16 x10)), .second] [(.int (1 : Int32))])
      refine own_go (fun _ => XS.goto X9.here hx rfl (pc0 := 156) (pc' := 160) rfl (hb hby at_156) (by decide) (by decide)) ?_
      show own_WP p e below _ T9 (mkF m 160 #[.val (.long x0), .second, .val (.long x2), .second, .val (.long x4), .second, .val (.long x6), .second, .val (.long x8), .second, .val (.long x10), .second, .val (.ref b22), .val (.int t0), .val (.long x14), .second, .val (.long x16), .second, .val (.long (f5_0 x16 x10)), .second] [(.int (1 : Int32))])
      refine own_go (fun _ => XS.istore X9.here hx rfl (hb hby at_160) rfl (l' := #[.val (.long x0), .second, .val (.long x2), .second, .val (.long x4), .second, .val (.long x6), .second, .val (.long x8), .second, .val (.long x10), .second, .val (.ref b22), .val (.int (1 : Int32)), .val (.long x14), .second, .val (.long x16), .second, .val (.long (f5_0 x16 x10)), .second]) rfl) ?_
      show own_WP p e below _ T9 (mkF m 162 #[.val (.long x0), .second, .val (.long x2), .second, .val (.long x4), .second, .val (.long x6), .second, .val (.long x8), .second, .val (.long x10), .second, .val (.ref b22), .val (.int (1 : Int32)), .val (.long x14), .second, .val (.long x16), .second, .val (.long (f5_0 x16 x10)), .second] [])
      refine own_go (fun _ => XS.iload X9.here hx rfl (hb hby at_162) rfl) ?_
      show own_WP p e below _ T9 (mkF m 164 #[.val (.long x0), .second, .val (.long x2), .second, .val (.long x4), .second, .val (.long x6), .second, .val (.long x8), .second, .val (.long x10), .second, .val (.ref b22), .val (.int (1 : Int32)), .val (.long x14), .second, .val (.long x16), .second, .val (.long (f5_0 x16 x10)), .second] [(.int (1 : Int32))])
      obtain rfl := Option.some.inj hv
      exact own_retN X9 C (by simp) (hb hby at_164) (hP _ _ _ N K rfl) (by decide) (by decide)
    · replace hv := (if_neg h152).symm.trans hv
      refine own_go (fun _ => XS.ifYes X9.here hx rfl (pc0 := 152) (pc' := 159) rfl (hb hby at_152) rfl (XT.ll_ne_t h152) (by decide) (by decide)) ?_
      exact b0_159 hw C Z0 rr hP X9 (rfl : T9.heap = T9.heap) N K g_b22 z_b22 E_b22 F_b22_firstOverwriter x0 x2 x4 x6 x8 x10 (.val (.ref b22)) (One.val rfl) t0 x14 x16 (f5_0 x16 x10) hv
def f0_120 (c_b22_firstOverwriter : Int64) (x10 : Int64) (x16 : Int64) : Option (Int32) := (f0_121 c_b22_firstOverwriter x10 x16 (0 : Int32))
set_option maxRecDepth 65536 in
set_option maxHeartbeats 40000000 in
theorem b0_120 {p : Program} {l : Launch} {e : Env} {s : State} {m : MethodId} {args : Array Value} {below : List Frame} {meth : Method} {c : Code} {Z : State} {a0 : Array Value} {h0 : Heap} {n0 : Nat} {P : Option Value → Heap → List Loc → Prop} (hw : ∀ d ∈ tables_1, d.before a0 Z = true) (C : own_Ctx p s m meth c Z x code maxLocals ret) (Z0 : n0 ≤ h0.size)   (rr : Int32) (hP : ∀ v h L, Fr n0 L → Keep h0 h [] → E0 Z h0  rr v h → P v h L)
    {T : State} {locs : List Loc} {h : Heap} {b22 : Addr} {c_b22_firstOverwriter : Int64} (X : Stand p l e room_1 s m args below meth c T locs 1 8) (e0 : T.heap = h) (N : Fr n0 locs) (K : Keep h0 h []) (g_b22 : n0 ≤ b22) (z_b22 : h0.size ≤ b22) (E_b22 : Exa Z h b22 "com/example/elis/elis/Commit") (F_b22_firstOverwriter : Fld Z h b22 "com/example/elis/elis/Commit" "firstOverwriter" "J" (.long c_b22_firstOverwriter)) (x0 : Int64) (x2 : Int64) (x4 : Int64) (x6 : Int64) (x8 : Int64) (x10 : Int64) (x13 : Int32) (x14 : Int64) (x16 : Int64) (hv : f0_120 c_b22_firstOverwriter x10 x16 = some rr) :
    own_WP p e below (own_Q s P room_1.cells room_1.slots) T (mkF m 120 #[.val (.long x0), .second, .val (.long x2), .second, .val (.long x4), .second, .val (.long x6), .second, .val (.long x8), .second, .val (.long x10), .second, .val (.ref b22), .val (.int x13), .val (.long x14), .second, .val (.long x16), .second, .unset, .unset] []) := by
  obtain ⟨hx, hZ, hby, hml, hown, hnm, hret, hlk⟩ := id C
  replace hown : s.vm.findClass "com/example/elis/elis/CommitOverwrittenByPinLaw" = some m.cls := hown
  unfold f0_120 at hv
  show own_WP p e below _ T (mkF m 120 #[.val (.long x0), .second, .val (.long x2), .second, .val (.long x4), .second, .val (.long x6), .second, .val (.long x8), .second, .val (.long x10), .second, .val (.ref b22), .val (.int x13), .val (.long x14), .second, .val (.long x16), .second, .unset, .unset] [])
  refine own_go (fun _ => XS.iconst X.here hx rfl (hb hby at_120)) ?_
  exact b0_121 hw C Z0 rr hP X e0 N K g_b22 z_b22 E_b22 F_b22_firstOverwriter x0 x2 x4 x6 x8 x10 x13 x14 x16 (0 : Int32) hv
def f0_82 (c_b22_firstOverwriter : Int64) (x8 : Int64) (x10 : Int64) (x14 : Int64) (t0 : Int32) : Option (Int32) := ((f4_0 c_b22_firstOverwriter x8).bind fun rr5 => (if t0 = (0 : Int32) then (f0_120 rr5 x10 (f5_0 x14 x8)) else ((f3_0 rr5).bind fun rr10 => (if rr10 = (f5_0 x14 x8) then (f0_121 rr5 x10 (f5_0 x14 x8) (1 : Int32)) else (f0_120 rr5 x10 (f5_0 x14 x8))))))
set_option maxRecDepth 65536 in
set_option maxHeartbeats 40000000 in
theorem b0_82 {p : Program} {l : Launch} {e : Env} {s : State} {m : MethodId} {args : Array Value} {below : List Frame} {meth : Method} {c : Code} {Z : State} {a0 : Array Value} {h0 : Heap} {n0 : Nat} {P : Option Value → Heap → List Loc → Prop} (hw : ∀ d ∈ tables_1, d.before a0 Z = true) (C : own_Ctx p s m meth c Z x code maxLocals ret) (Z0 : n0 ≤ h0.size)   (rr : Int32) (hP : ∀ v h L, Fr n0 L → Keep h0 h [] → E0 Z h0  rr v h → P v h L)
    {T : State} {locs : List Loc} {h : Heap} {b22 : Addr} {c_b22_firstOverwriter : Int64} (X : Stand p l e room_1 s m args below meth c T locs 1 8) (e0 : T.heap = h) (N : Fr n0 locs) (K : Keep h0 h []) (g_b22 : n0 ≤ b22) (z_b22 : h0.size ≤ b22) (E_b22 : Exa Z h b22 "com/example/elis/elis/Commit") (F_b22_firstOverwriter : Fld Z h b22 "com/example/elis/elis/Commit" "firstOverwriter" "J" (.long c_b22_firstOverwriter)) (x0 : Int64) (x2 : Int64) (x4 : Int64) (x6 : Int64) (x8 : Int64) (x10 : Int64) (x13 : Int32) (x14 : Int64) (t0 : Int32) (hv : f0_82 c_b22_firstOverwriter x8 x10 x14 t0 = some rr) :
    own_WP p e below (own_Q s P room_1.cells room_1.slots) T (mkF m 82 #[.val (.long x0), .second, .val (.long x2), .second, .val (.long x4), .second, .val (.long x6), .second, .val (.long x8), .second, .val (.long x10), .second, .val (.ref b22), .val (.int x13), .val (.long x14), .second, .unset, .unset, .unset, .unset] [(.int t0)]) := by
  obtain ⟨hx, hZ, hby, hml, hown, hnm, hret, hlk⟩ := id C
  replace hown : s.vm.findClass "com/example/elis/elis/CommitOverwrittenByPinLaw" = some m.cls := hown
  unfold f0_82 at hv
  show own_WP p e below _ T (mkF m 82 #[.val (.long x0), .second, .val (.long x2), .second, .val (.long x4), .second, .val (.long x6), .second, .val (.long x8), .second, .val (.long x10), .second, .val (.ref b22), .val (.int x13), .val (.long x14), .second, .unset, .unset, .unset, .unset] [(.int t0)])
  refine own_go (fun _ => XS.istore X.here hx rfl (hb hby at_82) rfl (l' := #[.val (.long x0), .second, .val (.long x2), .second, .val (.long x4), .second, .val (.long x6), .second, .val (.long x8), .second, .val (.long x10), .second, .val (.ref b22), .val (.int t0), .val (.long x14), .second, .unset, .unset, .unset, .unset]) rfl) ?_
  show own_WP p e below _ T (mkF m 84 #[.val (.long x0), .second, .val (.long x2), .second, .val (.long x4), .second, .val (.long x6), .second, .val (.long x8), .second, .val (.long x10), .second, .val (.ref b22), .val (.int t0), .val (.long x14), .second, .unset, .unset, .unset, .unset] [])
  refine own_go (fun _ => XS.aload X.here hx rfl (hb hby at_84) rfl rfl) ?_
  show own_WP p e below _ T (mkF m 86 #[.val (.long x0), .second, .val (.long x2), .second, .val (.long x4), .second, .val (.long x6), .second, .val (.long x8), .second, .val (.long x10), .second, .val (.ref b22), .val (.int t0), .val (.long x14), .second, .unset, .unset, .unset, .unset] [(.ref b22)])
  refine own_go (fun _ => XS.lload X.here hx rfl (hb hby at_86) rfl) ?_
  show own_WP p e below _ T (mkF m 88 #[.val (.long x0), .second, .val (.long x2), .second, .val (.long x4), .second, .val (.long x6), .second, .val (.long x8), .second, .val (.long x10), .second, .val (.ref b22), .val (.int t0), .val (.long x14), .second, .unset, .unset, .unset, .unset] [(.long x8), (.ref b22)])
  obtain ⟨rr5, hf5, hv⟩ := own_bind hv
  obtain ⟨T5, v5, L5, X5, ⟨N5, K5, Q5⟩, st5⟩ := own_callV X C (a := b22) (argsL := [(.long x8)]) (rm4 l Z a0 hw n0 h (by have q := K.1; omega) (by omega) E_b22 F_b22_firstOverwriter x8 rr5 hf5) (hw _ (List.mem_of_getElem? (i := 19) rfl)) (hw _ (List.mem_of_getElem? (i := 20) rfl)) (hw _ (List.mem_of_getElem? (i := 22) rfl)) (hw _ (List.mem_of_getElem? (i := 21) rfl)) (hw _ (List.mem_of_getElem? (i := 3) rfl)) (hw _ (List.mem_of_getElem? (i := 23) rfl)) (by decide) e0 E_b22 (W := 0) (pc := 88) (Ls := #[.val (.long x0), .second, .val (.long x2), .second, .val (.long x4), .second, .val (.long x6), .second, .val (.long x8), .second, .val (.long x10), .second, .val (.ref b22), .val (.int t0), .val (.long x14), .second, .unset, .unset, .unset, .unset]) rfl (lenOf pd4 rfl) (rest := []) (stk := [(.long x8), (.ref b22)]) rfl (Nat.le_of_ble_eq_true rfl) (hb hby at_88) (by decide) (by decide) (by decide) (by decide)
  replace N := Fr.app N N5
  clear E_b22
  clear F_b22_firstOverwriter
  obtain ⟨rfl, E_b22, F_b22_firstOverwriter⟩ := Q5
  replace K := K.trans K5 (allS (Or.inr (by omega)) all0)
  refine own_go st5 ?_
  show own_WP p e below _ T5 (mkF m 91 #[.val (.long x0), .second, .val (.long x2), .second, .val (.long x4), .second, .val (.long x6), .second, .val (.long x8), .second, .val (.long x10), .second, .val (.ref b22), .val (.int t0), .val (.long x14), .second, .unset, .unset, .unset, .unset] [])
  refine own_go (fun _ => XS.lload X5.here hx rfl (hb hby at_91) rfl) ?_
  show own_WP p e below _ T5 (mkF m 93 #[.val (.long x0), .second, .val (.long x2), .second, .val (.long x4), .second, .val (.long x6), .second, .val (.long x8), .second, .val (.long x10), .second, .val (.ref b22), .val (.int t0), .val (.long x14), .second, .unset, .unset, .unset, .unset] [(.long x14)])
  refine own_go (fun _ => XS.lload X5.here hx rfl (hb hby at_93) rfl) ?_
  show own_WP p e below _ T5 (mkF m 95 #[.val (.long x0), .second, .val (.long x2), .second, .val (.long x4), .second, .val (.long x6), .second, .val (.long x8), .second, .val (.long x10), .second, .val (.ref b22), .val (.int t0), .val (.long x14), .second, .unset, .unset, .unset, .unset] [(.long x8), (.long x14)])
  obtain ⟨T6, v6, L6, X6, ⟨rfl, rfl, e6⟩, st6⟩ := own_callS X5 C (rm5 l Z a0 hw x14 x8 T5.heap) (hw _ (List.mem_of_getElem? (i := 24) rfl)) (hw _ (List.mem_of_getElem? (i := 25) rfl)) (hw _ (List.mem_of_getElem? (i := 26) rfl)) (hw _ (List.mem_of_getElem? (i := 27) rfl)) (by decide) (rfl : T5.heap = T5.heap) (W := 0) (pc := 95) (Ls := #[.val (.long x0), .second, .val (.long x2), .second, .val (.long x4), .second, .val (.long x6), .second, .val (.long x8), .second, .val (.long x10), .second, .val (.ref b22), .val (.int t0), .val (.long x14), .second, .unset, .unset, .unset, .unset]) rfl (lenOf pd5 rfl) (rest := []) (stk := [(.long x8), (.long x14)]) rfl (Nat.le_of_ble_eq_true rfl) (hb hby at_95) (by decide) (by decide) (by decide) (by decide)
  rw [List.append_nil] at X6
  refine own_go st6 ?_
  show own_WP p e below _ T6 (mkF m 98 #[.val (.long x0), .second, .val (.long x2), .second, .val (.long x4), .second, .val (.long x6), .second, .val (.long x8), .second, .val (.long x10), .second, .val (.ref b22), .val (.int t0), .val (.long x14), .second, .unset, .unset, .unset, .unset] [(.long (f5_0 x14 x8))])
  refine own_go (fun _ => XS.lstore X6.here hx rfl (hb hby at_98) rfl (l' := #[.val (.long x0), .second, .val (.long x2), .second, .val (.long x4), .second, .val (.long x6), .second, .val (.long x8), .second, .val (.long x10), .second, .val (.ref b22), .val (.int t0), .val (.long x14), .second, .val (.long (f5_0 x14 x8)), .second, .unset, .unset]) rfl) ?_
  show own_WP p e below _ T6 (mkF m 100 #[.val (.long x0), .second, .val (.long x2), .second, .val (.long x4), .second, .val (.long x6), .second, .val (.long x8), .second, .val (.long x10), .second, .val (.ref b22), .val (.int t0), .val (.long x14), .second, .val (.long (f5_0 x14 x8)), .second, .unset, .unset] [])
  refine own_go (fun _ => XS.iload X6.here hx rfl (hb hby at_100) rfl) ?_
  show own_WP p e below _ T6 (mkF m 102 #[.val (.long x0), .second, .val (.long x2), .second, .val (.long x4), .second, .val (.long x6), .second, .val (.long x8), .second, .val (.long x10), .second, .val (.ref b22), .val (.int t0), .val (.long x14), .second, .val (.long (f5_0 x14 x8)), .second, .unset, .unset] [(.int t0)])
  by_cases h102 : t0 = (0 : Int32)
  · replace hv := (if_pos h102).symm.trans hv
    refine own_go (fun _ => XS.ifYes X6.here hx rfl (pc0 := 102) (pc' := 120) rfl (hb hby at_102) rfl (XT.i0_eq_t h102) (by decide) (by decide)) ?_
    exact b0_120 hw C Z0 rr hP X6 e6 N K g_b22 z_b22 E_b22 F_b22_firstOverwriter x0 x2 x4 x6 x8 x10 t0 x14 (f5_0 x14 x8) hv
  · replace hv := (if_neg h102).symm.trans hv
    refine own_go (fun _ => XS.ifNo X6.here hx rfl (hb hby at_102) rfl (XT.i0_eq_f h102)) ?_
    show own_WP p e below _ T6 (mkF m 105 #[.val (.long x0), .second, .val (.long x2), .second, .val (.long x4), .second, .val (.long x6), .second, .val (.long x8), .second, .val (.long x10), .second, .val (.ref b22), .val (.int t0), .val (.long x14), .second, .val (.long (f5_0 x14 x8)), .second, .unset, .unset] [])
    refine own_go (fun _ => XS.aload X6.here hx rfl (hb hby at_105) rfl rfl) ?_
    show own_WP p e below _ T6 (mkF m 107 #[.val (.long x0), .second, .val (.long x2), .second, .val (.long x4), .second, .val (.long x6), .second, .val (.long x8), .second, .val (.long x10), .second, .val (.ref b22), .val (.int t0), .val (.long x14), .second, .val (.long (f5_0 x14 x8)), .second, .unset, .unset] [(.ref b22)])
    obtain ⟨rr10, hf10, hv⟩ := own_bind hv
    obtain ⟨T10, v10, L10, X10, ⟨N10, K10, Q10⟩, st10⟩ := own_callV X6 C (a := b22) (argsL := []) (rm3 l Z a0 hw n0 T5.heap (by have q := K.1; omega) (by omega) E_b22 F_b22_firstOverwriter rr10 hf10) (hw _ (List.mem_of_getElem? (i := 13) rfl)) (hw _ (List.mem_of_getElem? (i := 14) rfl)) (hw _ (List.mem_of_getElem? (i := 16) rfl)) (hw _ (List.mem_of_getElem? (i := 15) rfl)) (hw _ (List.mem_of_getElem? (i := 3) rfl)) (hw _ (List.mem_of_getElem? (i := 17) rfl)) (by decide) e6 E_b22 (W := 0) (pc := 107) (Ls := #[.val (.long x0), .second, .val (.long x2), .second, .val (.long x4), .second, .val (.long x6), .second, .val (.long x8), .second, .val (.long x10), .second, .val (.ref b22), .val (.int t0), .val (.long x14), .second, .val (.long (f5_0 x14 x8)), .second, .unset, .unset]) rfl (lenOf pd3 rfl) (rest := []) (stk := [(.ref b22)]) rfl (Nat.le_of_ble_eq_true rfl) (hb hby at_107) (by decide) (by decide) (by decide) (by decide)
    replace N := Fr.app N N10
    replace E_b22 := E_b22.keep K10
    replace F_b22_firstOverwriter := F_b22_firstOverwriter.keep K10 nin0
    obtain ⟨rfl⟩ := Q10
    replace K := K.trans K10 all0
    refine own_go st10 ?_
    show own_WP p e below _ T10 (mkF m 110 #[.val (.long x0), .second, .val (.long x2), .second, .val (.long x4), .second, .val (.long x6), .second, .val (.long x8), .second, .val (.long x10), .second, .val (.ref b22), .val (.int t0), .val (.long x14), .second, .val (.long (f5_0 x14 x8)), .second, .unset, .unset] [(.long rr10)])
    refine own_go (fun _ => XS.lload X10.here hx rfl (hb hby at_110) rfl) ?_
    show own_WP p e below _ T10 (mkF m 112 #[.val (.long x0), .second, .val (.long x2), .second, .val (.long x4), .second, .val (.long x6), .second, .val (.long x8), .second, .val (.long x10), .second, .val (.ref b22), .val (.int t0), .val (.long x14), .second, .val (.long (f5_0 x14 x8)), .second, .unset, .unset] [(.long (f5_0 x14 x8)), (.long rr10)])
    refine own_go (fun _ => XT.lcmp X10.here hx rfl (hb hby at_112) rfl) ?_
    show own_WP p e below _ T10 (mkF m 113 #[.val (.long x0), .second, .val (.long x2), .second, .val (.long x4), .second, .val (.long x6), .second, .val (.long x8), .second, .val (.long x10), .second, .val (.ref b22), .val (.int t0), .val (.long x14), .second, .val (.long (f5_0 x14 x8)), .second, .unset, .unset] [(.int (XT.cmpL rr10 (f5_0 x14 x8)))])
    by_cases h113 : rr10 = (f5_0 x14 x8)
    · replace hv := (if_pos h113).symm.trans hv
      refine own_go (fun _ => XS.ifNo X10.here hx rfl (hb hby at_113) rfl (XT.ll_ne_f h113)) ?_
      show own_WP p e below _ T10 (mkF m 116 #[.val (.long x0), .second, .val (.long x2), .second, .val (.long x4), .second, .val (.long x6), .second, .val (.long x8), .second, .val (.long x10), .second, .val (.ref b22), .val (.int t0), .val (.long x14), .second, .val (.long (f5_0 x14 x8)), .second, .unset, .unset] [])
      refine own_go (fun _ => XS.iconst X10.here hx rfl (hb hby at_116)) ?_
      show own_WP p e below _ T10 (mkF m 117 #[.val (.long x0), .second, .val (.long x2), .second, .val (.long x4), .second, .val (.long x6), .second, .val (.long x8), .second, .val (.long x10), .second, .val (.ref b22), .val (.int t0), .val (.long x14), .second, .val (.long (f5_0 x14 x8)), .second, .unset, .unset] [(.int (1 : Int32))])
      refine own_go (fun _ => XS.goto X10.here hx rfl (pc0 := 117) (pc' := 121) rfl (hb hby at_117) (by decide) (by decide)) ?_
      exact b0_121 hw C Z0 rr hP X10 (rfl : T10.heap = T10.heap) N K g_b22 z_b22 E_b22 F_b22_firstOverwriter x0 x2 x4 x6 x8 x10 t0 x14 (f5_0 x14 x8) (1 : Int32) hv
    · replace hv := (if_neg h113).symm.trans hv
      refine own_go (fun _ => XS.ifYes X10.here hx rfl (pc0 := 113) (pc' := 120) rfl (hb hby at_113) rfl (XT.ll_ne_t h113) (by decide) (by decide)) ?_
      exact b0_120 hw C Z0 rr hP X10 (rfl : T10.heap = T10.heap) N K g_b22 z_b22 E_b22 F_b22_firstOverwriter x0 x2 x4 x6 x8 x10 t0 x14 (f5_0 x14 x8) hv
def f0_81 (c_b22_firstOverwriter : Int64) (x8 : Int64) (x10 : Int64) (x14 : Int64) : Option (Int32) := (f0_82 c_b22_firstOverwriter x8 x10 x14 (0 : Int32))
set_option maxRecDepth 65536 in
set_option maxHeartbeats 40000000 in
theorem b0_81 {p : Program} {l : Launch} {e : Env} {s : State} {m : MethodId} {args : Array Value} {below : List Frame} {meth : Method} {c : Code} {Z : State} {a0 : Array Value} {h0 : Heap} {n0 : Nat} {P : Option Value → Heap → List Loc → Prop} (hw : ∀ d ∈ tables_1, d.before a0 Z = true) (C : own_Ctx p s m meth c Z x code maxLocals ret) (Z0 : n0 ≤ h0.size)   (rr : Int32) (hP : ∀ v h L, Fr n0 L → Keep h0 h [] → E0 Z h0  rr v h → P v h L)
    {T : State} {locs : List Loc} {h : Heap} {b22 : Addr} {c_b22_firstOverwriter : Int64} (X : Stand p l e room_1 s m args below meth c T locs 1 8) (e0 : T.heap = h) (N : Fr n0 locs) (K : Keep h0 h []) (g_b22 : n0 ≤ b22) (z_b22 : h0.size ≤ b22) (E_b22 : Exa Z h b22 "com/example/elis/elis/Commit") (F_b22_firstOverwriter : Fld Z h b22 "com/example/elis/elis/Commit" "firstOverwriter" "J" (.long c_b22_firstOverwriter)) (x0 : Int64) (x2 : Int64) (x4 : Int64) (x6 : Int64) (x8 : Int64) (x10 : Int64) (x13 : Int32) (x14 : Int64) (hv : f0_81 c_b22_firstOverwriter x8 x10 x14 = some rr) :
    own_WP p e below (own_Q s P room_1.cells room_1.slots) T (mkF m 81 #[.val (.long x0), .second, .val (.long x2), .second, .val (.long x4), .second, .val (.long x6), .second, .val (.long x8), .second, .val (.long x10), .second, .val (.ref b22), .val (.int x13), .val (.long x14), .second, .unset, .unset, .unset, .unset] []) := by
  obtain ⟨hx, hZ, hby, hml, hown, hnm, hret, hlk⟩ := id C
  replace hown : s.vm.findClass "com/example/elis/elis/CommitOverwrittenByPinLaw" = some m.cls := hown
  unfold f0_81 at hv
  show own_WP p e below _ T (mkF m 81 #[.val (.long x0), .second, .val (.long x2), .second, .val (.long x4), .second, .val (.long x6), .second, .val (.long x8), .second, .val (.long x10), .second, .val (.ref b22), .val (.int x13), .val (.long x14), .second, .unset, .unset, .unset, .unset] [])
  refine own_go (fun _ => XS.iconst X.here hx rfl (hb hby at_81)) ?_
  exact b0_82 hw C Z0 rr hP X e0 N K g_b22 z_b22 E_b22 F_b22_firstOverwriter x0 x2 x4 x6 x8 x10 x13 x14 (0 : Int32) hv
def f0_48 (c_b22_firstOverwriter : Int64) (x6 : Int64) (x8 : Int64) (x10 : Int64) (t0 : Int32) : Option (Int32) := ((f4_0 c_b22_firstOverwriter x6).bind fun rr4 => (if t0 = (0 : Int32) then (f0_81 rr4 x8 x10 x6) else ((f3_0 rr4).bind fun rr11 => (if rr11 = x6 then (f0_82 rr4 x8 x10 x6 (1 : Int32)) else (f0_81 rr4 x8 x10 x6)))))
set_option maxRecDepth 65536 in
set_option maxHeartbeats 40000000 in
theorem b0_48 {p : Program} {l : Launch} {e : Env} {s : State} {m : MethodId} {args : Array Value} {below : List Frame} {meth : Method} {c : Code} {Z : State} {a0 : Array Value} {h0 : Heap} {n0 : Nat} {P : Option Value → Heap → List Loc → Prop} (hw : ∀ d ∈ tables_1, d.before a0 Z = true) (C : own_Ctx p s m meth c Z x code maxLocals ret) (Z0 : n0 ≤ h0.size)   (rr : Int32) (hP : ∀ v h L, Fr n0 L → Keep h0 h [] → E0 Z h0  rr v h → P v h L)
    {T : State} {locs : List Loc} {h : Heap} {b22 : Addr} {c_b22_firstOverwriter : Int64} (X : Stand p l e room_1 s m args below meth c T locs 1 8) (e0 : T.heap = h) (N : Fr n0 locs) (K : Keep h0 h []) (g_b22 : n0 ≤ b22) (z_b22 : h0.size ≤ b22) (E_b22 : Exa Z h b22 "com/example/elis/elis/Commit") (F_b22_firstOverwriter : Fld Z h b22 "com/example/elis/elis/Commit" "firstOverwriter" "J" (.long c_b22_firstOverwriter)) (x0 : Int64) (x2 : Int64) (x4 : Int64) (x6 : Int64) (x8 : Int64) (x10 : Int64) (t0 : Int32) (hv : f0_48 c_b22_firstOverwriter x6 x8 x10 t0 = some rr) :
    own_WP p e below (own_Q s P room_1.cells room_1.slots) T (mkF m 48 #[.val (.long x0), .second, .val (.long x2), .second, .val (.long x4), .second, .val (.long x6), .second, .val (.long x8), .second, .val (.long x10), .second, .val (.ref b22), .unset, .unset, .unset, .unset, .unset, .unset, .unset] [(.int t0)]) := by
  obtain ⟨hx, hZ, hby, hml, hown, hnm, hret, hlk⟩ := id C
  replace hown : s.vm.findClass "com/example/elis/elis/CommitOverwrittenByPinLaw" = some m.cls := hown
  unfold f0_48 at hv
  show own_WP p e below _ T (mkF m 48 #[.val (.long x0), .second, .val (.long x2), .second, .val (.long x4), .second, .val (.long x6), .second, .val (.long x8), .second, .val (.long x10), .second, .val (.ref b22), .unset, .unset, .unset, .unset, .unset, .unset, .unset] [(.int t0)])
  refine own_go (fun _ => XS.istore X.here hx rfl (hb hby at_48) rfl (l' := #[.val (.long x0), .second, .val (.long x2), .second, .val (.long x4), .second, .val (.long x6), .second, .val (.long x8), .second, .val (.long x10), .second, .val (.ref b22), .val (.int t0), .unset, .unset, .unset, .unset, .unset, .unset]) rfl) ?_
  show own_WP p e below _ T (mkF m 50 #[.val (.long x0), .second, .val (.long x2), .second, .val (.long x4), .second, .val (.long x6), .second, .val (.long x8), .second, .val (.long x10), .second, .val (.ref b22), .val (.int t0), .unset, .unset, .unset, .unset, .unset, .unset] [])
  refine own_go (fun _ => XS.aload X.here hx rfl (hb hby at_50) rfl rfl) ?_
  show own_WP p e below _ T (mkF m 52 #[.val (.long x0), .second, .val (.long x2), .second, .val (.long x4), .second, .val (.long x6), .second, .val (.long x8), .second, .val (.long x10), .second, .val (.ref b22), .val (.int t0), .unset, .unset, .unset, .unset, .unset, .unset] [(.ref b22)])
  refine own_go (fun _ => XS.lload X.here hx rfl (hb hby at_52) rfl) ?_
  show own_WP p e below _ T (mkF m 54 #[.val (.long x0), .second, .val (.long x2), .second, .val (.long x4), .second, .val (.long x6), .second, .val (.long x8), .second, .val (.long x10), .second, .val (.ref b22), .val (.int t0), .unset, .unset, .unset, .unset, .unset, .unset] [(.long x6), (.ref b22)])
  obtain ⟨rr4, hf4, hv⟩ := own_bind hv
  obtain ⟨T4, v4, L4, X4, ⟨N4, K4, Q4⟩, st4⟩ := own_callV X C (a := b22) (argsL := [(.long x6)]) (rm4 l Z a0 hw n0 h (by have q := K.1; omega) (by omega) E_b22 F_b22_firstOverwriter x6 rr4 hf4) (hw _ (List.mem_of_getElem? (i := 19) rfl)) (hw _ (List.mem_of_getElem? (i := 20) rfl)) (hw _ (List.mem_of_getElem? (i := 22) rfl)) (hw _ (List.mem_of_getElem? (i := 21) rfl)) (hw _ (List.mem_of_getElem? (i := 3) rfl)) (hw _ (List.mem_of_getElem? (i := 23) rfl)) (by decide) e0 E_b22 (W := 0) (pc := 54) (Ls := #[.val (.long x0), .second, .val (.long x2), .second, .val (.long x4), .second, .val (.long x6), .second, .val (.long x8), .second, .val (.long x10), .second, .val (.ref b22), .val (.int t0), .unset, .unset, .unset, .unset, .unset, .unset]) rfl (lenOf pd4 rfl) (rest := []) (stk := [(.long x6), (.ref b22)]) rfl (Nat.le_of_ble_eq_true rfl) (hb hby at_54) (by decide) (by decide) (by decide) (by decide)
  replace N := Fr.app N N4
  clear E_b22
  clear F_b22_firstOverwriter
  obtain ⟨rfl, E_b22, F_b22_firstOverwriter⟩ := Q4
  replace K := K.trans K4 (allS (Or.inr (by omega)) all0)
  refine own_go st4 ?_
  show own_WP p e below _ T4 (mkF m 57 #[.val (.long x0), .second, .val (.long x2), .second, .val (.long x4), .second, .val (.long x6), .second, .val (.long x8), .second, .val (.long x10), .second, .val (.ref b22), .val (.int t0), .unset, .unset, .unset, .unset, .unset, .unset] [])
  refine own_go (fun _ => XS.lload X4.here hx rfl (hb hby at_57) rfl) ?_
  show own_WP p e below _ T4 (mkF m 59 #[.val (.long x0), .second, .val (.long x2), .second, .val (.long x4), .second, .val (.long x6), .second, .val (.long x8), .second, .val (.long x10), .second, .val (.ref b22), .val (.int t0), .unset, .unset, .unset, .unset, .unset, .unset] [(.long x6)])
  refine own_go (fun _ => XS.lstore X4.here hx rfl (hb hby at_59) rfl (l' := #[.val (.long x0), .second, .val (.long x2), .second, .val (.long x4), .second, .val (.long x6), .second, .val (.long x8), .second, .val (.long x10), .second, .val (.ref b22), .val (.int t0), .val (.long x6), .second, .unset, .unset, .unset, .unset]) rfl) ?_
  show own_WP p e below _ T4 (mkF m 61 #[.val (.long x0), .second, .val (.long x2), .second, .val (.long x4), .second, .val (.long x6), .second, .val (.long x8), .second, .val (.long x10), .second, .val (.ref b22), .val (.int t0), .val (.long x6), .second, .unset, .unset, .unset, .unset] [])
  refine own_go (fun _ => XS.iload X4.here hx rfl (hb hby at_61) rfl) ?_
  show own_WP p e below _ T4 (mkF m 63 #[.val (.long x0), .second, .val (.long x2), .second, .val (.long x4), .second, .val (.long x6), .second, .val (.long x8), .second, .val (.long x10), .second, .val (.ref b22), .val (.int t0), .val (.long x6), .second, .unset, .unset, .unset, .unset] [(.int t0)])
  by_cases h63 : t0 = (0 : Int32)
  · replace hv := (if_pos h63).symm.trans hv
    refine own_go (fun _ => XS.ifYes X4.here hx rfl (pc0 := 63) (pc' := 81) rfl (hb hby at_63) rfl (XT.i0_eq_t h63) (by decide) (by decide)) ?_
    exact b0_81 hw C Z0 rr hP X4 (rfl : T4.heap = T4.heap) N K g_b22 z_b22 E_b22 F_b22_firstOverwriter x0 x2 x4 x6 x8 x10 t0 x6 hv
  · replace hv := (if_neg h63).symm.trans hv
    refine own_go (fun _ => XS.ifNo X4.here hx rfl (hb hby at_63) rfl (XT.i0_eq_f h63)) ?_
    show own_WP p e below _ T4 (mkF m 66 #[.val (.long x0), .second, .val (.long x2), .second, .val (.long x4), .second, .val (.long x6), .second, .val (.long x8), .second, .val (.long x10), .second, .val (.ref b22), .val (.int t0), .val (.long x6), .second, .unset, .unset, .unset, .unset] [])
    refine own_go (fun _ => XS.aload X4.here hx rfl (hb hby at_66) rfl rfl) ?_
    show own_WP p e below _ T4 (mkF m 68 #[.val (.long x0), .second, .val (.long x2), .second, .val (.long x4), .second, .val (.long x6), .second, .val (.long x8), .second, .val (.long x10), .second, .val (.ref b22), .val (.int t0), .val (.long x6), .second, .unset, .unset, .unset, .unset] [(.ref b22)])
    obtain ⟨rr11, hf11, hv⟩ := own_bind hv
    obtain ⟨T11, v11, L11, X11, ⟨N11, K11, Q11⟩, st11⟩ := own_callV X4 C (a := b22) (argsL := []) (rm3 l Z a0 hw n0 T4.heap (by have q := K.1; omega) (by omega) E_b22 F_b22_firstOverwriter rr11 hf11) (hw _ (List.mem_of_getElem? (i := 13) rfl)) (hw _ (List.mem_of_getElem? (i := 14) rfl)) (hw _ (List.mem_of_getElem? (i := 16) rfl)) (hw _ (List.mem_of_getElem? (i := 15) rfl)) (hw _ (List.mem_of_getElem? (i := 3) rfl)) (hw _ (List.mem_of_getElem? (i := 17) rfl)) (by decide) (rfl : T4.heap = T4.heap) E_b22 (W := 0) (pc := 68) (Ls := #[.val (.long x0), .second, .val (.long x2), .second, .val (.long x4), .second, .val (.long x6), .second, .val (.long x8), .second, .val (.long x10), .second, .val (.ref b22), .val (.int t0), .val (.long x6), .second, .unset, .unset, .unset, .unset]) rfl (lenOf pd3 rfl) (rest := []) (stk := [(.ref b22)]) rfl (Nat.le_of_ble_eq_true rfl) (hb hby at_68) (by decide) (by decide) (by decide) (by decide)
    replace N := Fr.app N N11
    replace E_b22 := E_b22.keep K11
    replace F_b22_firstOverwriter := F_b22_firstOverwriter.keep K11 nin0
    obtain ⟨rfl⟩ := Q11
    replace K := K.trans K11 all0
    refine own_go st11 ?_
    show own_WP p e below _ T11 (mkF m 71 #[.val (.long x0), .second, .val (.long x2), .second, .val (.long x4), .second, .val (.long x6), .second, .val (.long x8), .second, .val (.long x10), .second, .val (.ref b22), .val (.int t0), .val (.long x6), .second, .unset, .unset, .unset, .unset] [(.long rr11)])
    refine own_go (fun _ => XS.lload X11.here hx rfl (hb hby at_71) rfl) ?_
    show own_WP p e below _ T11 (mkF m 73 #[.val (.long x0), .second, .val (.long x2), .second, .val (.long x4), .second, .val (.long x6), .second, .val (.long x8), .second, .val (.long x10), .second, .val (.ref b22), .val (.int t0), .val (.long x6), .second, .unset, .unset, .unset, .unset] [(.long x6), (.long rr11)])
    refine own_go (fun _ => XT.lcmp X11.here hx rfl (hb hby at_73) rfl) ?_
    show own_WP p e below _ T11 (mkF m 74 #[.val (.long x0), .second, .val (.long x2), .second, .val (.long x4), .second, .val (.long x6), .second, .val (.long x8), .second, .val (.long x10), .second, .val (.ref b22), .val (.int t0), .val (.long x6), .second, .unset, .unset, .unset, .unset] [(.int (XT.cmpL rr11 x6))])
    by_cases h74 : rr11 = x6
    · replace hv := (if_pos h74).symm.trans hv
      refine own_go (fun _ => XS.ifNo X11.here hx rfl (hb hby at_74) rfl (XT.ll_ne_f h74)) ?_
      show own_WP p e below _ T11 (mkF m 77 #[.val (.long x0), .second, .val (.long x2), .second, .val (.long x4), .second, .val (.long x6), .second, .val (.long x8), .second, .val (.long x10), .second, .val (.ref b22), .val (.int t0), .val (.long x6), .second, .unset, .unset, .unset, .unset] [])
      refine own_go (fun _ => XS.iconst X11.here hx rfl (hb hby at_77)) ?_
      show own_WP p e below _ T11 (mkF m 78 #[.val (.long x0), .second, .val (.long x2), .second, .val (.long x4), .second, .val (.long x6), .second, .val (.long x8), .second, .val (.long x10), .second, .val (.ref b22), .val (.int t0), .val (.long x6), .second, .unset, .unset, .unset, .unset] [(.int (1 : Int32))])
      refine own_go (fun _ => XS.goto X11.here hx rfl (pc0 := 78) (pc' := 82) rfl (hb hby at_78) (by decide) (by decide)) ?_
      exact b0_82 hw C Z0 rr hP X11 (rfl : T11.heap = T11.heap) N K g_b22 z_b22 E_b22 F_b22_firstOverwriter x0 x2 x4 x6 x8 x10 t0 x6 (1 : Int32) hv
    · replace hv := (if_neg h74).symm.trans hv
      refine own_go (fun _ => XS.ifYes X11.here hx rfl (pc0 := 74) (pc' := 81) rfl (hb hby at_74) rfl (XT.ll_ne_t h74) (by decide) (by decide)) ?_
      exact b0_81 hw C Z0 rr hP X11 (rfl : T11.heap = T11.heap) N K g_b22 z_b22 E_b22 F_b22_firstOverwriter x0 x2 x4 x6 x8 x10 t0 x6 hv
def f0_0 (x0 : Int64) (x2 : Int64) (x4 : Int64) : Option (Int32) := (f1_0.bind fun rr2 => ((f3_0 rr2).bind fun rr3 => (if rr3 = (-1 : Int64) then (f0_48 rr2 (x0 &&& (9223372036854775807 : Int64)) (x2 &&& (9223372036854775807 : Int64)) (x4 &&& (9223372036854775807 : Int64)) (1 : Int32)) else (f0_48 rr2 (x0 &&& (9223372036854775807 : Int64)) (x2 &&& (9223372036854775807 : Int64)) (x4 &&& (9223372036854775807 : Int64)) (0 : Int32)))))
set_option maxRecDepth 65536 in
set_option maxHeartbeats 40000000 in
theorem b0_0 {p : Program} {l : Launch} {e : Env} {s : State} {m : MethodId} {args : Array Value} {below : List Frame} {meth : Method} {c : Code} {Z : State} {a0 : Array Value} {h0 : Heap} {n0 : Nat} {P : Option Value → Heap → List Loc → Prop} (hw : ∀ d ∈ tables_1, d.before a0 Z = true) (C : own_Ctx p s m meth c Z x code maxLocals ret) (Z0 : n0 ≤ h0.size)   (rr : Int32) (hP : ∀ v h L, Fr n0 L → Keep h0 h [] → E0 Z h0  rr v h → P v h L)
    {T : State} {locs : List Loc} {h : Heap} (X : Stand p l e room_1 s m args below meth c T locs 0 0) (e0 : T.heap = h) (N : Fr n0 locs) (K : Keep h0 h []) (x0 : Int64) (x2 : Int64) (x4 : Int64) (hv : f0_0 x0 x2 x4 = some rr) :
    own_WP p e below (own_Q s P room_1.cells room_1.slots) T (mkF m 0 #[.val (.long x0), .second, .val (.long x2), .second, .val (.long x4), .second, .unset, .unset, .unset, .unset, .unset, .unset, .unset, .unset, .unset, .unset, .unset, .unset, .unset, .unset] []) := by
  obtain ⟨hx, hZ, hby, hml, hown, hnm, hret, hlk⟩ := id C
  replace hown : s.vm.findClass "com/example/elis/elis/CommitOverwrittenByPinLaw" = some m.cls := hown
  unfold f0_0 at hv
  show own_WP p e below _ T (mkF m 0 #[.val (.long x0), .second, .val (.long x2), .second, .val (.long x4), .second, .unset, .unset, .unset, .unset, .unset, .unset, .unset, .unset, .unset, .unset, .unset, .unset, .unset, .unset] [])
  refine own_go (fun _ => XS.lloadN X.here hx rfl (hb hby at_0) rfl) ?_
  show own_WP p e below _ T (mkF m 1 #[.val (.long x0), .second, .val (.long x2), .second, .val (.long x4), .second, .unset, .unset, .unset, .unset, .unset, .unset, .unset, .unset, .unset, .unset, .unset, .unset, .unset, .unset] [(.long x0)])
  refine own_go (X.ldc2Long hx hown (mvT hZ (hw _ (List.mem_of_getElem? (i := 0) rfl))) (g := (mkF m 1 #[.val (.long x0), .second, .val (.long x2), .second, .val (.long x4), .second, .unset, .unset, .unset, .unset, .unset, .unset, .unset, .unset, .unset, .unset, .unset, .unset, .unset, .unset] [(.long x0)])) rfl (hb hby at_1)) ?_
  show own_WP p e below _ T (mkF m 4 #[.val (.long x0), .second, .val (.long x2), .second, .val (.long x4), .second, .unset, .unset, .unset, .unset, .unset, .unset, .unset, .unset, .unset, .unset, .unset, .unset, .unset, .unset] [(.long (9223372036854775807 : Int64)), (.long x0)])
  refine own_go (fun _ => XS.land X.here hx rfl (hb hby at_4) rfl) ?_
  show own_WP p e below _ T (mkF m 5 #[.val (.long x0), .second, .val (.long x2), .second, .val (.long x4), .second, .unset, .unset, .unset, .unset, .unset, .unset, .unset, .unset, .unset, .unset, .unset, .unset, .unset, .unset] [(.long (x0 &&& (9223372036854775807 : Int64)))])
  refine own_go (fun _ => XS.lstore X.here hx rfl (hb hby at_5) rfl (l' := #[.val (.long x0), .second, .val (.long x2), .second, .val (.long x4), .second, .val (.long (x0 &&& (9223372036854775807 : Int64))), .second, .unset, .unset, .unset, .unset, .unset, .unset, .unset, .unset, .unset, .unset, .unset, .unset]) rfl) ?_
  show own_WP p e below _ T (mkF m 7 #[.val (.long x0), .second, .val (.long x2), .second, .val (.long x4), .second, .val (.long (x0 &&& (9223372036854775807 : Int64))), .second, .unset, .unset, .unset, .unset, .unset, .unset, .unset, .unset, .unset, .unset, .unset, .unset] [])
  refine own_go (fun _ => XS.lloadN X.here hx rfl (hb hby at_7) rfl) ?_
  show own_WP p e below _ T (mkF m 8 #[.val (.long x0), .second, .val (.long x2), .second, .val (.long x4), .second, .val (.long (x0 &&& (9223372036854775807 : Int64))), .second, .unset, .unset, .unset, .unset, .unset, .unset, .unset, .unset, .unset, .unset, .unset, .unset] [(.long x2)])
  refine own_go (X.ldc2Long hx hown (mvT hZ (hw _ (List.mem_of_getElem? (i := 0) rfl))) (g := (mkF m 8 #[.val (.long x0), .second, .val (.long x2), .second, .val (.long x4), .second, .val (.long (x0 &&& (9223372036854775807 : Int64))), .second, .unset, .unset, .unset, .unset, .unset, .unset, .unset, .unset, .unset, .unset, .unset, .unset] [(.long x2)])) rfl (hb hby at_8)) ?_
  show own_WP p e below _ T (mkF m 11 #[.val (.long x0), .second, .val (.long x2), .second, .val (.long x4), .second, .val (.long (x0 &&& (9223372036854775807 : Int64))), .second, .unset, .unset, .unset, .unset, .unset, .unset, .unset, .unset, .unset, .unset, .unset, .unset] [(.long (9223372036854775807 : Int64)), (.long x2)])
  refine own_go (fun _ => XS.land X.here hx rfl (hb hby at_11) rfl) ?_
  show own_WP p e below _ T (mkF m 12 #[.val (.long x0), .second, .val (.long x2), .second, .val (.long x4), .second, .val (.long (x0 &&& (9223372036854775807 : Int64))), .second, .unset, .unset, .unset, .unset, .unset, .unset, .unset, .unset, .unset, .unset, .unset, .unset] [(.long (x2 &&& (9223372036854775807 : Int64)))])
  refine own_go (fun _ => XS.lstore X.here hx rfl (hb hby at_12) rfl (l' := #[.val (.long x0), .second, .val (.long x2), .second, .val (.long x4), .second, .val (.long (x0 &&& (9223372036854775807 : Int64))), .second, .val (.long (x2 &&& (9223372036854775807 : Int64))), .second, .unset, .unset, .unset, .unset, .unset, .unset, .unset, .unset, .unset, .unset]) rfl) ?_
  show own_WP p e below _ T (mkF m 14 #[.val (.long x0), .second, .val (.long x2), .second, .val (.long x4), .second, .val (.long (x0 &&& (9223372036854775807 : Int64))), .second, .val (.long (x2 &&& (9223372036854775807 : Int64))), .second, .unset, .unset, .unset, .unset, .unset, .unset, .unset, .unset, .unset, .unset] [])
  refine own_go (fun _ => XS.lload X.here hx rfl (hb hby at_14) rfl) ?_
  show own_WP p e below _ T (mkF m 16 #[.val (.long x0), .second, .val (.long x2), .second, .val (.long x4), .second, .val (.long (x0 &&& (9223372036854775807 : Int64))), .second, .val (.long (x2 &&& (9223372036854775807 : Int64))), .second, .unset, .unset, .unset, .unset, .unset, .unset, .unset, .unset, .unset, .unset] [(.long x4)])
  refine own_go (X.ldc2Long hx hown (mvT hZ (hw _ (List.mem_of_getElem? (i := 0) rfl))) (g := (mkF m 16 #[.val (.long x0), .second, .val (.long x2), .second, .val (.long x4), .second, .val (.long (x0 &&& (9223372036854775807 : Int64))), .second, .val (.long (x2 &&& (9223372036854775807 : Int64))), .second, .unset, .unset, .unset, .unset, .unset, .unset, .unset, .unset, .unset, .unset] [(.long x4)])) rfl (hb hby at_16)) ?_
  show own_WP p e below _ T (mkF m 19 #[.val (.long x0), .second, .val (.long x2), .second, .val (.long x4), .second, .val (.long (x0 &&& (9223372036854775807 : Int64))), .second, .val (.long (x2 &&& (9223372036854775807 : Int64))), .second, .unset, .unset, .unset, .unset, .unset, .unset, .unset, .unset, .unset, .unset] [(.long (9223372036854775807 : Int64)), (.long x4)])
  refine own_go (fun _ => XS.land X.here hx rfl (hb hby at_19) rfl) ?_
  show own_WP p e below _ T (mkF m 20 #[.val (.long x0), .second, .val (.long x2), .second, .val (.long x4), .second, .val (.long (x0 &&& (9223372036854775807 : Int64))), .second, .val (.long (x2 &&& (9223372036854775807 : Int64))), .second, .unset, .unset, .unset, .unset, .unset, .unset, .unset, .unset, .unset, .unset] [(.long (x4 &&& (9223372036854775807 : Int64)))])
  refine own_go (fun _ => XS.lstore X.here hx rfl (hb hby at_20) rfl (l' := #[.val (.long x0), .second, .val (.long x2), .second, .val (.long x4), .second, .val (.long (x0 &&& (9223372036854775807 : Int64))), .second, .val (.long (x2 &&& (9223372036854775807 : Int64))), .second, .val (.long (x4 &&& (9223372036854775807 : Int64))), .second, .unset, .unset, .unset, .unset, .unset, .unset, .unset, .unset]) rfl) ?_
  show own_WP p e below _ T (mkF m 22 #[.val (.long x0), .second, .val (.long x2), .second, .val (.long x4), .second, .val (.long (x0 &&& (9223372036854775807 : Int64))), .second, .val (.long (x2 &&& (9223372036854775807 : Int64))), .second, .val (.long (x4 &&& (9223372036854775807 : Int64))), .second, .unset, .unset, .unset, .unset, .unset, .unset, .unset, .unset] [])
  obtain ⟨T1, h1, X1, e1, E1, A1, D1, -, st1⟩ := newO X hx hZ hown (hw _ (List.mem_of_getElem? (i := 1) rfl)) (hw _ (List.mem_of_getElem? (i := 2) rfl)) (hw _ (List.mem_of_getElem? (i := 3) rfl)) e0 (g := (mkF m 22 #[.val (.long x0), .second, .val (.long x2), .second, .val (.long x4), .second, .val (.long (x0 &&& (9223372036854775807 : Int64))), .second, .val (.long (x2 &&& (9223372036854775807 : Int64))), .second, .val (.long (x4 &&& (9223372036854775807 : Int64))), .second, .unset, .unset, .unset, .unset, .unset, .unset, .unset, .unset] [])) rfl (hb hby at_22) (by decide) (by decide)
  obtain ⟨b22, hb_b22⟩ : ∃ z, z = h.size := ⟨_, rfl⟩
  rw [← hb_b22] at A1 D1 st1
  refine own_go st1 ?_
  have g_b22 : n0 ≤ b22 := by have q := K.1; omega
  have z_b22 : h0.size ≤ b22 := by have q := K.1; omega
  replace K := K.ext E1
  have E_b22 := A1
  have F_b22_firstOverwriter : Fld Z h1 b22 "com/example/elis/elis/Commit" "firstOverwriter" "J" (.long (0 : Int64)) := D1 (Or.inl (hw _ (List.mem_of_getElem? (i := 12) rfl))) (ty := .long) (by decide)
  show own_WP p e below _ T1 (mkF m 25 #[.val (.long x0), .second, .val (.long x2), .second, .val (.long x4), .second, .val (.long (x0 &&& (9223372036854775807 : Int64))), .second, .val (.long (x2 &&& (9223372036854775807 : Int64))), .second, .val (.long (x4 &&& (9223372036854775807 : Int64))), .second, .unset, .unset, .unset, .unset, .unset, .unset, .unset, .unset] [(.ref b22)])
  refine own_go (fun _ => XS.dup X1.here hx rfl (hb hby at_25) rfl rfl) ?_
  show own_WP p e below _ T1 (mkF m 26 #[.val (.long x0), .second, .val (.long x2), .second, .val (.long x4), .second, .val (.long (x0 &&& (9223372036854775807 : Int64))), .second, .val (.long (x2 &&& (9223372036854775807 : Int64))), .second, .val (.long (x4 &&& (9223372036854775807 : Int64))), .second, .unset, .unset, .unset, .unset, .unset, .unset, .unset, .unset] [(.ref b22), (.ref b22)])
  obtain ⟨rr2, hf2, hv⟩ := own_bind hv
  obtain ⟨T2, v2, L2, X2, ⟨N2, K2, Q2⟩, st2⟩ := own_callN X1 C (a := b22) (argsL := []) (rm1 l Z a0 hw n0 h1 (by have q := K.1; omega) (by omega) E_b22 F_b22_firstOverwriter rr2 hf2) rfl (hw _ (List.mem_of_getElem? (i := 4) rfl)) (hw _ (List.mem_of_getElem? (i := 5) rfl)) (hw _ (List.mem_of_getElem? (i := 3) rfl)) (hw _ (List.mem_of_getElem? (i := 6) rfl)) (by decide) e1 (W := 1) (pc := 26) (Ls := #[.val (.long x0), .second, .val (.long x2), .second, .val (.long x4), .second, .val (.long (x0 &&& (9223372036854775807 : Int64))), .second, .val (.long (x2 &&& (9223372036854775807 : Int64))), .second, .val (.long (x4 &&& (9223372036854775807 : Int64))), .second, .unset, .unset, .unset, .unset, .unset, .unset, .unset, .unset]) rfl (lenOf pd1 rfl) (rest := [(.ref b22)]) (stk := [(.ref b22), (.ref b22)]) rfl (Nat.le_of_ble_eq_true rfl) (hb hby at_26) (by decide) (by decide) (by decide) (by decide)
  replace N := Fr.app N N2
  clear E_b22
  clear F_b22_firstOverwriter
  obtain ⟨rfl, E_b22, F_b22_firstOverwriter⟩ := Q2
  replace K := K.trans K2 (allS (Or.inr (by omega)) all0)
  refine own_go st2 ?_
  show own_WP p e below _ T2 (mkF m 29 #[.val (.long x0), .second, .val (.long x2), .second, .val (.long x4), .second, .val (.long (x0 &&& (9223372036854775807 : Int64))), .second, .val (.long (x2 &&& (9223372036854775807 : Int64))), .second, .val (.long (x4 &&& (9223372036854775807 : Int64))), .second, .unset, .unset, .unset, .unset, .unset, .unset, .unset, .unset] [(.ref b22)])
  refine own_go (fun _ => XS.astore X2.here hx rfl (hb hby at_29) rfl rfl (l' := #[.val (.long x0), .second, .val (.long x2), .second, .val (.long x4), .second, .val (.long (x0 &&& (9223372036854775807 : Int64))), .second, .val (.long (x2 &&& (9223372036854775807 : Int64))), .second, .val (.long (x4 &&& (9223372036854775807 : Int64))), .second, .val (.ref b22), .unset, .unset, .unset, .unset, .unset, .unset, .unset]) rfl) ?_
  show own_WP p e below _ T2 (mkF m 31 #[.val (.long x0), .second, .val (.long x2), .second, .val (.long x4), .second, .val (.long (x0 &&& (9223372036854775807 : Int64))), .second, .val (.long (x2 &&& (9223372036854775807 : Int64))), .second, .val (.long (x4 &&& (9223372036854775807 : Int64))), .second, .val (.ref b22), .unset, .unset, .unset, .unset, .unset, .unset, .unset] [])
  refine own_go (fun _ => XS.aload X2.here hx rfl (hb hby at_31) rfl rfl) ?_
  show own_WP p e below _ T2 (mkF m 33 #[.val (.long x0), .second, .val (.long x2), .second, .val (.long x4), .second, .val (.long (x0 &&& (9223372036854775807 : Int64))), .second, .val (.long (x2 &&& (9223372036854775807 : Int64))), .second, .val (.long (x4 &&& (9223372036854775807 : Int64))), .second, .val (.ref b22), .unset, .unset, .unset, .unset, .unset, .unset, .unset] [(.ref b22)])
  obtain ⟨rr3, hf3, hv⟩ := own_bind hv
  obtain ⟨T3, v3, L3, X3, ⟨N3, K3, Q3⟩, st3⟩ := own_callV X2 C (a := b22) (argsL := []) (rm3 l Z a0 hw n0 T2.heap (by have q := K.1; omega) (by omega) E_b22 F_b22_firstOverwriter rr3 hf3) (hw _ (List.mem_of_getElem? (i := 13) rfl)) (hw _ (List.mem_of_getElem? (i := 14) rfl)) (hw _ (List.mem_of_getElem? (i := 16) rfl)) (hw _ (List.mem_of_getElem? (i := 15) rfl)) (hw _ (List.mem_of_getElem? (i := 3) rfl)) (hw _ (List.mem_of_getElem? (i := 17) rfl)) (by decide) (rfl : T2.heap = T2.heap) E_b22 (W := 0) (pc := 33) (Ls := #[.val (.long x0), .second, .val (.long x2), .second, .val (.long x4), .second, .val (.long (x0 &&& (9223372036854775807 : Int64))), .second, .val (.long (x2 &&& (9223372036854775807 : Int64))), .second, .val (.long (x4 &&& (9223372036854775807 : Int64))), .second, .val (.ref b22), .unset, .unset, .unset, .unset, .unset, .unset, .unset]) rfl (lenOf pd3 rfl) (rest := []) (stk := [(.ref b22)]) rfl (Nat.le_of_ble_eq_true rfl) (hb hby at_33) (by decide) (by decide) (by decide) (by decide)
  replace N := Fr.app N N3
  replace E_b22 := E_b22.keep K3
  replace F_b22_firstOverwriter := F_b22_firstOverwriter.keep K3 nin0
  obtain ⟨rfl⟩ := Q3
  replace K := K.trans K3 all0
  refine own_go st3 ?_
  show own_WP p e below _ T3 (mkF m 36 #[.val (.long x0), .second, .val (.long x2), .second, .val (.long x4), .second, .val (.long (x0 &&& (9223372036854775807 : Int64))), .second, .val (.long (x2 &&& (9223372036854775807 : Int64))), .second, .val (.long (x4 &&& (9223372036854775807 : Int64))), .second, .val (.ref b22), .unset, .unset, .unset, .unset, .unset, .unset, .unset] [(.long rr3)])
  refine own_go (X3.ldc2Long hx hown (mvT hZ (hw _ (List.mem_of_getElem? (i := 18) rfl))) (g := (mkF m 36 #[.val (.long x0), .second, .val (.long x2), .second, .val (.long x4), .second, .val (.long (x0 &&& (9223372036854775807 : Int64))), .second, .val (.long (x2 &&& (9223372036854775807 : Int64))), .second, .val (.long (x4 &&& (9223372036854775807 : Int64))), .second, .val (.ref b22), .unset, .unset, .unset, .unset, .unset, .unset, .unset] [(.long rr3)])) rfl (hb hby at_36)) ?_
  show own_WP p e below _ T3 (mkF m 39 #[.val (.long x0), .second, .val (.long x2), .second, .val (.long x4), .second, .val (.long (x0 &&& (9223372036854775807 : Int64))), .second, .val (.long (x2 &&& (9223372036854775807 : Int64))), .second, .val (.long (x4 &&& (9223372036854775807 : Int64))), .second, .val (.ref b22), .unset, .unset, .unset, .unset, .unset, .unset, .unset] [(.long (-1 : Int64)), (.long rr3)])
  refine own_go (fun _ => XT.lcmp X3.here hx rfl (hb hby at_39) rfl) ?_
  show own_WP p e below _ T3 (mkF m 40 #[.val (.long x0), .second, .val (.long x2), .second, .val (.long x4), .second, .val (.long (x0 &&& (9223372036854775807 : Int64))), .second, .val (.long (x2 &&& (9223372036854775807 : Int64))), .second, .val (.long (x4 &&& (9223372036854775807 : Int64))), .second, .val (.ref b22), .unset, .unset, .unset, .unset, .unset, .unset, .unset] [(.int (XT.cmpL rr3 (-1 : Int64)))])
  by_cases h40 : rr3 = (-1 : Int64)
  · replace hv := (if_pos h40).symm.trans hv
    refine own_go (fun _ => XS.ifNo X3.here hx rfl (hb hby at_40) rfl (XT.ll_ne_f h40)) ?_
    show own_WP p e below _ T3 (mkF m 43 #[.val (.long x0), .second, .val (.long x2), .second, .val (.long x4), .second, .val (.long (x0 &&& (9223372036854775807 : Int64))), .second, .val (.long (x2 &&& (9223372036854775807 : Int64))), .second, .val (.long (x4 &&& (9223372036854775807 : Int64))), .second, .val (.ref b22), .unset, .unset, .unset, .unset, .unset, .unset, .unset] [])
    refine own_go (fun _ => XS.iconst X3.here hx rfl (hb hby at_43)) ?_
    show own_WP p e below _ T3 (mkF m 44 #[.val (.long x0), .second, .val (.long x2), .second, .val (.long x4), .second, .val (.long (x0 &&& (9223372036854775807 : Int64))), .second, .val (.long (x2 &&& (9223372036854775807 : Int64))), .second, .val (.long (x4 &&& (9223372036854775807 : Int64))), .second, .val (.ref b22), .unset, .unset, .unset, .unset, .unset, .unset, .unset] [(.int (1 : Int32))])
    refine own_go (fun _ => XS.goto X3.here hx rfl (pc0 := 44) (pc' := 48) rfl (hb hby at_44) (by decide) (by decide)) ?_
    exact b0_48 hw C Z0 rr hP X3 (rfl : T3.heap = T3.heap) N K g_b22 z_b22 E_b22 F_b22_firstOverwriter x0 x2 x4 (x0 &&& (9223372036854775807 : Int64)) (x2 &&& (9223372036854775807 : Int64)) (x4 &&& (9223372036854775807 : Int64)) (1 : Int32) hv
  · replace hv := (if_neg h40).symm.trans hv
    refine own_go (fun _ => XS.ifYes X3.here hx rfl (pc0 := 40) (pc' := 47) rfl (hb hby at_40) rfl (XT.ll_ne_t h40) (by decide) (by decide)) ?_
    show own_WP p e below _ T3 (mkF m 47 #[.val (.long x0), .second, .val (.long x2), .second, .val (.long x4), .second, .val (.long (x0 &&& (9223372036854775807 : Int64))), .second, .val (.long (x2 &&& (9223372036854775807 : Int64))), .second, .val (.long (x4 &&& (9223372036854775807 : Int64))), .second, .val (.ref b22), .unset, .unset, .unset, .unset, .unset, .unset, .unset] [])
    refine own_go (fun _ => XS.iconst X3.here hx rfl (hb hby at_47)) ?_
    exact b0_48 hw C Z0 rr hP X3 (rfl : T3.heap = T3.heap) N K g_b22 z_b22 E_b22 F_b22_firstOverwriter x0 x2 x4 (x0 &&& (9223372036854775807 : Int64)) (x2 &&& (9223372036854775807 : Int64)) (x4 &&& (9223372036854775807 : Int64)) (0 : Int32) hv
theorem ef0 (m : MethodId) (x0 : Int64) (x2 : Int64) (x4 : Int64) : entryFrame m #[(.long x0), (.long x2), (.long x4)] maxLocals = (mkF m 0 #[.val (.long x0), .second, .val (.long x2), .second, .val (.long x4), .second, .unset, .unset, .unset, .unset, .unset, .unset, .unset, .unset, .unset, .unset, .unset, .unset, .unset, .unset] []) := by first | (simp [entryFrame, mkF, argsToLocals, Value.category, maxLocals]; done) | rfl
theorem pn0 : plainFor x = true := plainFor_of_name (by first | (simp [plainName, overriddenIn, x]; done) | decide +kernel)
theorem own_nn (x : Int64) : ¬ (x &&& (9223372036854775807 : Int64)) = (-1 : Int64) := by
  intro h
  have q := c_maskL x 9223372036854775807 63 (by decide) (by decide +kernel)
  rw [h] at q
  have e : (-1 : Int64).toInt = -1 := rfl
  omega
theorem own_min (v x : Int64) (h : ¬ v = (-1 : Int64)) : f4_0 v x = some (f5_0 v x) := by
  unfold f4_0 f4_20 f5_0
  rw [if_neg h]
  split <;> rfl
theorem own_min_nn (v x : Int64) (h : ¬ v = (-1 : Int64)) (h' : ¬ x = (-1 : Int64)) : ¬ f5_0 v x = (-1 : Int64) := by
  unfold f5_0
  split <;> assumption
theorem own_first (x : Int64) : f4_0 (-1) x = some x := by
  unfold f4_0 f4_20
  rw [if_pos rfl]
theorem own_val (a b c : Int64) (ha : ¬ a = (-1 : Int64)) (hb : ¬ b = (-1 : Int64)) (hc : ¬ c = (-1 : Int64)) : f0_48 (-1) a b c 1 = some 1 := by
  unfold f0_48 f3_0
  rw [own_first]
  simp only [Option.bind_some]
  rw [if_neg (by decide), if_pos trivial]
  unfold f0_82 f3_0
  rw [own_min a b ha]
  simp only [Option.bind_some]
  rw [if_neg (by decide), if_pos trivial]
  unfold f0_121 f3_0
  rw [own_min _ c (own_min_nn a b ha hb)]
  simp only [Option.bind_some]
  rw [if_neg (by decide), if_pos trivial]
theorem plain0 (x0 x2 x4 : Int64) : f0_0 x0 x2 x4 = some 1 := by
  have q := own_val _ _ _ (own_nn x0) (own_nn x2) (own_nn x4)
  unfold f0_0 f1_0 f3_0
  rw [Option.bind_some, Option.bind_some, if_pos rfl]
  exact q
theorem rm0 (l : Launch) (Z : State) (a0 : Array Value) (hw : ∀ d ∈ tables_1, d.before a0 Z = true) (ws : List Jvm.Cond) (x0 : Int64) (x2 : Int64) (x4 : Int64) (h0 : Heap) : own_Met l Z x code maxLocals ret ws room_1 #[(.long x0), (.long x2), (.long x4)] h0 (fun v h L => v = some (.int 1) ∧ Fr h0.size L) := by
  refine own_body pn0 ?_
  intro p e s m below meth c s₁ C X e0
  exact own_cast (ef0 m x0 x2 x4) (b0_0 hw C (Nat.le_refl h0.size) (1 : Int32) (fun v h L a b c => ⟨c, a⟩) X e0 (Fr.nil _) (Keep.refl h0 []) x0 x2 x4 (plain0 x0 x2 x4))
set_option maxRecDepth 65536 in
set_option maxHeartbeats 40000000 in
theorem comes_1 {Post : Tables → Env → Array Value → State → Outcome → State → Prop} (hpost : ∀ tb e args s v u, (limb_1_1.after args s (.returned v) u = true ∧ limb_1_2.after args s (.returned v) u = true ∧ True) → FrameEnd s (.returned v) u (Jvm.fieldLocs frame_1_writes args s ++ Jvm.arrayLocs frame_1_arrays args s ++ Jvm.staticLocs frame_1_statics s) 16 128 → Post tb e args s (.returned v) u) :
    ArmFor flags0 classFile x code maxLocals ret World_1 tables_1 room_1 Calls_1 rest_1 Pre_1 Post := by
  intro l hfl _ _ p e ha hc hk s m args below hf hA hF happ hP
  obtain ⟨hcalls, hrest, hpre⟩ := hP
  obtain ⟨-, -, -, hnamed, -, -, -, hat⟩ := (Spec.applies_iff hf).mp happ
  obtain ⟨hg, hn⟩ := and_e (Cond.before_iff.mp (show (Jvm.Cond.and given_1 narrow_1).before args s = true from hpre))
  obtain ⟨hcnt, hg0⟩ := and_e hg
  obtain ⟨ha0, hg1⟩ := and_e hg0
  obtain ⟨ha1, hg2⟩ := and_e hg1
  have ha2 := hg2
  obtain ⟨w0, w1, w2, rfl⟩ : ∃ w0 w1 w2 : Value, args = #[w0, w1, w2] := by
    have hs : args.size = 3 := by simpa [Cond.value, given_1] using hcnt
    obtain ⟨L⟩ := args
    match L, hs with
    | [w0, w1, w2], _ => exact ⟨w0, w1, w2, rfl⟩
  have hw := fun d (hd : d ∈ tables_1) => atoms_spec (ws := Jvm.Cond.code x code maxLocals ret :: tables_1) hat d (List.mem_cons_of_mem _ hd)
  obtain ⟨i0, ei0⟩ := isL_v ha0
  obtain rfl : w0 = (.long i0) := Option.some.inj ei0
  obtain ⟨i1, ei1⟩ := isL_v ha1
  obtain rfl : w1 = (.long i1) := Option.some.inj ei1
  obtain ⟨i2, ei2⟩ := isL_v ha2
  obtain rfl : w2 = (.long i2) := Option.some.inj ei2
  obtain ⟨n, o, h1, h2, h3, _, L, rfl, ⟨rfl, N⟩, hq⟩ := rm0 l s _ hw tables_1 i0 i1 i2 s.heap p e ha hc hk s m _ below hf ((Spec.applies_iff_loose hf).mp happ).1 ⟨rfl, State.Warmed39.refl s, rfl⟩ trivial
  refine ⟨n, _, h1, h2, h3, hpost _ _ _ _ _ _ ⟨Cond.after_iff.mpr rfl, Cond.after_iff.mpr (eq_i res_at (Term.int_eval (1)) rfl), trivial⟩ ⟨hq.1, hq.2.1, (hq.2.2.sift fun y hy => Or.inr (N y hy)).mono (by decide) (by decide)⟩⟩
theorem main_1_1 : Claimed_1_1 := comes_1 fun _ _ _ _ _ _ h hF => ⟨h.1, hF⟩
theorem main_1_2 : Claimed_1_2 := comes_1 fun _ _ _ _ _ _ h hF => ⟨h.2.1, hF⟩
end Jvm.Pilot.@@N@@
namespace Jvm.Pilot.@@N@@
open Jvm Jvm.ClassFile Sem Op Lib Jvm.Free Jvm.Stand Jvm.Pilot.@@N@@.Jvm.D
/-! MADE BY PROGRAM (witnessworld.py) out of the Statement's table words and the real class files: 10 classes; the members and pool entries that the words name. The judged class is class 1, her method 1. -/
namespace start1
open Jvm.ClassFile
def u (s : String) : CpInfo := .utf8 (stringToUtf16 s)
/-- a pool by its gaps: so many unusable entries, then the entry; so many at the end -/
def gap : Nat → List CpInfo → List CpInfo
  | 0, r => r
  | n + 1, r => .unusable :: gap n r
def poolList (es : List (Nat × CpInfo)) (last : Nat) : List CpInfo := es.foldr (fun e r => gap e.1 (e.2 :: r)) (gap last [])
def pool (es : List (Nat × CpInfo)) (last : Nat) : Array CpInfo := ⟨poolList es last⟩
def fileOf (pool : Array CpInfo) (this : Nat) (attrs : Array Attribute := #[]) (ms : Array MethodInfo := #[]) (fl : Nat := 33) (sup : Nat := 0) (ifs : Array Nat := #[]) (fds : Array FieldInfo := #[]) : ClassFile where
  minorVersion := 0
  majorVersion := 65
  constantPool := pool
  accessFlags := fl
  thisClass := this
  superClass := sup
  interfaces := ifs
  fields := fds
  methods := ms
  attributes := attrs
def plain (name : String) (sup : Option ClassId) : Class where
  name := name
  kind := .ordinary
  loader := none
  accessFlags := 33
  super := sup
  interfaces := #[]
  cf := none
  fields := #[]
  methods := #[]
  instanceTypes := #[]
  staticTypes := #[]
  resolved := #[]
  callSites := []
  init := .initialized
  statics := none
  mirror := none

def pool0 : Array CpInfo := pool [(5, u "<init>"), (0, u "()V"), (1, .class_ 10), (1, u "java/lang/Object")] 113

def k0c0 : Code := { maxStack := 0, maxLocals := 1, code := object_method_1_code, exceptionTable := #[], attributes := #[] }
def k0m0 : Method := { name := "<init>", desc := "()V", sig := { parameters := [], returnType := none }, accessFlags := 1, code := some k0c0 }
/-- java/lang/Object -/
def k0 : Class := { plain "java/lang/Object" none with
  accessFlags := 33
  interfaces := #[]
  cf := some (fileOf pool0 8 #[] #[{ accessFlags := 1, nameIndex := 5, descriptorIndex := 6, attributes := #[] }] 33 0 #[] #[])
  fields := #[]
  methods := #[k0m0]
  instanceTypes := #[]
  staticTypes := #[]
  resolved := Array.replicate 124 none
  statics := none }

def pool1 : Array CpInfo := pool [(2, .class_ 4), (0, .nameAndType 5 6), (0, u "java/lang/Object"), (0, u "<init>"), (0, u "()V"), (2, .long 9223372036854775807), (1, .class_ 12), (0, u "com/example/elis/elis/Commit"), (0, .methodref 11 3), (0, .methodref 11 15), (0, .nameAndType 16 17), (0, u "firstOverwriter"), (0, u "()J"), (0, .long 18446744073709551615), (1, .methodref 11 21), (0, .nameAndType 22 23), (0, u "overwrittenBy"), (0, u "(J)V"), (0, .methodref 25 26), (0, .class_ 27), (0, .nameAndType 28 29), (0, u "java/lang/Math"), (0, u "min"), (0, u "(JJ)J"), (0, .class_ 31), (0, u "com/example/elis/elis/CommitOverwrittenByPinLaw"), (2, u "law"), (0, u "(JJJ)Z")] 3

def k1m0 : Method := { name := "<init>", desc := "()V", sig := { parameters := [], returnType := none }, accessFlags := 1, code := none }
def k1c1 : Code := { maxStack := 4, maxLocals := 20, code := code, exceptionTable := #[], attributes := #[] }
def k1m1 : Method := { name := "law", desc := "(JJJ)Z", sig := { parameters := [.long, .long, .long], returnType := some .boolean }, accessFlags := 9, code := some k1c1 }
/-- com/example/elis/elis/CommitOverwrittenByPinLaw -/
def k1 : Class := { plain "com/example/elis/elis/CommitOverwrittenByPinLaw" (some 0) with
  accessFlags := 49
  interfaces := #[]
  cf := some (fileOf pool1 30 #[] #[{ accessFlags := 1, nameIndex := 5, descriptorIndex := 6, attributes := #[] }, { accessFlags := 9, nameIndex := 34, descriptorIndex := 35, attributes := #[] }] 49 2 #[] #[])
  fields := #[]
  methods := #[k1m0, k1m1]
  instanceTypes := #[]
  staticTypes := #[]
  resolved := Array.replicate 39 none
  statics := none }

def pool2 : Array CpInfo := pool [(1, .methodref 2 3), (0, .class_ 4), (0, .nameAndType 5 6), (0, u "java/lang/Object"), (0, u "<init>"), (0, u "()V"), (0, .class_ 8), (0, u "com/example/elis/elis/Commit"), (0, .long 18446744073709551615), (1, .fieldref 7 12), (0, .nameAndType 13 14), (0, u "firstOverwriter"), (0, u "J"), (5, u "()J"), (2, u "writeSignature"), (6, u "writes"), (0, u "Ljava/util/NavigableMap;"), (2, u "added"), (3, u "Ljava/util/NavigableSet;"), (2, u "reads"), (0, u "Lcom/example/elis/elis/ReadSet;"), (5, u "readSignature"), (6, u "horizon"), (11, u "POSITION"), (0, u "Ljava/lang/invoke/VarHandle;"), (20, u "position"), (38, u "NONE"), (1, u "REWRITTEN"), (15, u "overwrittenBy"), (0, u "(J)V")] 24

def k2c0 : Code := { maxStack := 3, maxLocals := 1, code := prog_7_method_1_code, exceptionTable := #[], attributes := #[] }
def k2m0 : Method := { name := "<init>", desc := "()V", sig := { parameters := [], returnType := none }, accessFlags := 0, code := some k2c0 }
def k2c1 : Code := { maxStack := 2, maxLocals := 1, code := prog_7_method_13_code, exceptionTable := #[], attributes := #[] }
def k2m1 : Method := { name := "firstOverwriter", desc := "()J", sig := { parameters := [], returnType := some .long }, accessFlags := 0, code := some k2c1 }
def k2c2 : Code := { maxStack := 4, maxLocals := 3, code := prog_7_method_14_code, exceptionTable := #[], attributes := #[] }
def k2m2 : Method := { name := "overwrittenBy", desc := "(J)V", sig := { parameters := [.long], returnType := none }, accessFlags := 0, code := some k2c2 }
/-- com/example/elis/elis/Commit -/
def k2 : Class := { plain "com/example/elis/elis/Commit" (some 0) with
  accessFlags := 32
  interfaces := #[]
  cf := some (fileOf pool2 7 #[] #[{ accessFlags := 0, nameIndex := 5, descriptorIndex := 6, attributes := #[] }, { accessFlags := 0, nameIndex := 13, descriptorIndex := 20, attributes := #[] }, { accessFlags := 0, nameIndex := 146, descriptorIndex := 147, attributes := #[] }] 32 2 #[] #[{ accessFlags := 24, nameIndex := 128, descriptorIndex := 14, attributes := #[] }, { accessFlags := 26, nameIndex := 130, descriptorIndex := 14, attributes := #[] }, { accessFlags := 26, nameIndex := 67, descriptorIndex := 68, attributes := #[] }, { accessFlags := 2, nameIndex := 89, descriptorIndex := 14, attributes := #[] }, { accessFlags := 2, nameIndex := 23, descriptorIndex := 14, attributes := #[] }, { accessFlags := 2, nameIndex := 30, descriptorIndex := 31, attributes := #[] }, { accessFlags := 2, nameIndex := 34, descriptorIndex := 38, attributes := #[] }, { accessFlags := 2, nameIndex := 41, descriptorIndex := 42, attributes := #[] }, { accessFlags := 2, nameIndex := 48, descriptorIndex := 14, attributes := #[] }, { accessFlags := 2, nameIndex := 55, descriptorIndex := 14, attributes := #[] }, { accessFlags := 2, nameIndex := 13, descriptorIndex := 14, attributes := #[] }])
  fields := #[{ name := "NONE", type := .long, accessFlags := 24, slot := 0, constantValue := 0 }, { name := "REWRITTEN", type := .long, accessFlags := 26, slot := 1, constantValue := 0 }, { name := "POSITION", type := (.object "java/lang/invoke/VarHandle"), accessFlags := 26, slot := 2, constantValue := 0 }, { name := "position", type := .long, accessFlags := 2, slot := 0, constantValue := 0 }, { name := "writeSignature", type := .long, accessFlags := 2, slot := 1, constantValue := 0 }, { name := "writes", type := (.object "java/util/NavigableMap"), accessFlags := 2, slot := 2, constantValue := 0 }, { name := "added", type := (.object "java/util/NavigableSet"), accessFlags := 2, slot := 3, constantValue := 0 }, { name := "reads", type := (.object "com/example/elis/elis/ReadSet"), accessFlags := 2, slot := 4, constantValue := 0 }, { name := "readSignature", type := .long, accessFlags := 2, slot := 5, constantValue := 0 }, { name := "horizon", type := .long, accessFlags := 2, slot := 6, constantValue := 0 }, { name := "firstOverwriter", type := .long, accessFlags := 2, slot := 7, constantValue := 0 }]
  methods := #[k2m0, k2m1, k2m2]
  instanceTypes := #[.long, .long, (.object "java/util/NavigableMap"), (.object "java/util/NavigableSet"), (.object "com/example/elis/elis/ReadSet"), .long, .long, .long]
  staticTypes := #[.long, .long, (.object "java/lang/invoke/VarHandle")]
  resolved := Array.replicate 172 none
  statics := none }

def pool3 : Array CpInfo := pool [(1, .class_ 2), (0, u "java/lang/Math"), (1, .class_ 6), (1, u "java/lang/Object"), (0, u "<init>"), (0, u "()V"), (89, .class_ 100), (1, u "java/lang/Math$RandomNumberGeneratorHolder"), (20, u "(JJ)J"), (50, u "negativeZeroFloatBits"), (0, u "J"), (2, u "negativeZeroDoubleBits"), (24, u "min"), (43, u "$assertionsDisabled"), (0, u "Z"), (91, u "twoToTheDoubleScaleDown"), (0, u "D"), (4, u "twoToTheDoubleScaleUp"), (9, u "E"), (3, u "PI"), (2, u "TAU"), (2, u "DEGREES_TO_RADIANS"), (0, u "RADIANS_TO_DEGREES")] 94

def k3m0 : Method := { name := "<init>", desc := "()V", sig := { parameters := [], returnType := none }, accessFlags := 2, code := none }
def k3c1 : Code := { maxStack := 4, maxLocals := 4, code := jdk_29_method_70_code, exceptionTable := #[], attributes := #[] }
def k3m1 : Method := { name := "min", desc := "(JJ)J", sig := { parameters := [.long, .long], returnType := some .long }, accessFlags := 9, code := some k3c1 }
/-- java/lang/Math -/
def k3 : Class := { plain "java/lang/Math" (some 0) with
  accessFlags := 49
  interfaces := #[]
  cf := some (fileOf pool3 1 #[.nestMembers #[98]] #[{ accessFlags := 2, nameIndex := 7, descriptorIndex := 8, attributes := #[] }, { accessFlags := 9, nameIndex := 201, descriptorIndex := 121, attributes := #[] }] 49 4 #[] #[{ accessFlags := 25, nameIndex := 354, descriptorIndex := 339, attributes := #[] }, { accessFlags := 25, nameIndex := 358, descriptorIndex := 339, attributes := #[] }, { accessFlags := 25, nameIndex := 361, descriptorIndex := 339, attributes := #[] }, { accessFlags := 26, nameIndex := 364, descriptorIndex := 339, attributes := #[] }, { accessFlags := 26, nameIndex := 365, descriptorIndex := 339, attributes := #[] }, { accessFlags := 26, nameIndex := 172, descriptorIndex := 173, attributes := #[] }, { accessFlags := 26, nameIndex := 176, descriptorIndex := 173, attributes := #[] }, { accessFlags := 8, nameIndex := 344, descriptorIndex := 339, attributes := #[] }, { accessFlags := 8, nameIndex := 338, descriptorIndex := 339, attributes := #[] }, { accessFlags := 4120, nameIndex := 245, descriptorIndex := 246, attributes := #[] }])
  fields := #[{ name := "E", type := .double, accessFlags := 25, slot := 0, constantValue := 0 }, { name := "PI", type := .double, accessFlags := 25, slot := 1, constantValue := 0 }, { name := "TAU", type := .double, accessFlags := 25, slot := 2, constantValue := 0 }, { name := "DEGREES_TO_RADIANS", type := .double, accessFlags := 26, slot := 3, constantValue := 0 }, { name := "RADIANS_TO_DEGREES", type := .double, accessFlags := 26, slot := 4, constantValue := 0 }, { name := "negativeZeroFloatBits", type := .long, accessFlags := 26, slot := 5, constantValue := 0 }, { name := "negativeZeroDoubleBits", type := .long, accessFlags := 26, slot := 6, constantValue := 0 }, { name := "twoToTheDoubleScaleUp", type := .double, accessFlags := 8, slot := 7, constantValue := 0 }, { name := "twoToTheDoubleScaleDown", type := .double, accessFlags := 8, slot := 8, constantValue := 0 }, { name := "$assertionsDisabled", type := .boolean, accessFlags := 4120, slot := 9, constantValue := 0 }]
  methods := #[k3m0, k3m1]
  instanceTypes := #[]
  staticTypes := #[.double, .double, .double, .double, .double, .long, .long, .double, .double, .boolean]
  resolved := Array.replicate 460 none
  statics := none }

def pool4 : Array CpInfo := pool [(1, u "java/lang/Cloneable"), (0, .class_ 1), (0, u "java/lang/Object"), (0, .class_ 3)] 3

/-- java/lang/Cloneable -/
def k4 : Class := { plain "java/lang/Cloneable" (some 0) with
  accessFlags := 1537
  interfaces := #[]
  cf := some (fileOf pool4 2 #[] #[] 1537 4 #[] #[])
  fields := #[]
  methods := #[]
  instanceTypes := #[]
  staticTypes := #[]
  resolved := Array.replicate 8 none
  statics := none }

def pool5 : Array CpInfo := pool [(1, u "java/io/Serializable"), (0, .class_ 1), (0, u "java/lang/Object"), (0, .class_ 3)] 3

/-- java/io/Serializable -/
def k5 : Class := { plain "java/io/Serializable" (some 0) with
  accessFlags := 1537
  interfaces := #[]
  cf := some (fileOf pool5 2 #[] #[] 1537 4 #[] #[])
  fields := #[]
  methods := #[]
  instanceTypes := #[]
  staticTypes := #[]
  resolved := Array.replicate 8 none
  statics := none }

/-- the primitive byte -/
def k6 : Class := { plain "byte" none with kind := .primitive 'B', accessFlags := 0x411 }
/-- [B -/
def k7 : Class := { plain "[B" (some 0) with kind := .array 6 .byte, interfaces := #[4, 5], accessFlags := 1041 }

/-- the primitive int -/
def k8 : Class := { plain "int" none with kind := .primitive 'I', accessFlags := 0x411 }
/-- [I -/
def k9 : Class := { plain "[I" (some 0) with kind := .array 8 .int, interfaces := #[4, 5], accessFlags := 1041 }

def heap : Heap := #[]
def classes : Array Class := #[k0, k1, k2, k3, k4, k5, k6, k7, k8, k9]
def interned : List (Array UInt16 × Addr) := []
def slotsUsed : Nat := 0
def theMethod : MethodId := ⟨1, 1⟩
def args0 : Array Value := #[.long 5, .long 5, .long 5]
def aboutOver (below : List Frame) : State where
  vm := { classes := classes, interned := interned.toArray }
  heap := heap
  slotsUsed := slotsUsed
  threads := #[{ frames := .invoking theMethod args0 :: below }]
def below0 : List Frame := [.native { method := ⟨0, 0⟩, args := #[] }]
def about1 : State := aboutOver below0
def p0 : Program := .bare "" "" ""
def e0 : Env := launch0.env 0 0 0
theorem w_frames : about1.frames = Frame.invoking theMethod args0 :: below0 := rfl
set_option maxRecDepth 65536 in
theorem w_args : argsFit about1.vm theMethod args0 = true := by decide +kernel
set_option maxRecDepth 65536 in
theorem w_heap : heapFits about1 = true := by decide +kernel
set_option maxRecDepth 65536 in
theorem w_runnable : about1.curStatus? = some .runnable := by decide +kernel
set_option maxRecDepth 65536 in
theorem w_alone : about1.alone = true := by decide +kernel
set_option maxRecDepth 65536 in
theorem w_named : about1.methodNamed? x = some theMethod := by decide +kernel
set_option maxRecDepth 65536 in
theorem w_hears : about1.hears theMethod below0 = true := by decide +kernel
set_option maxRecDepth 65536 in
theorem w_ripe : about1.ripe theMethod args0 below0 = true := by decide +kernel
theorem w_running : about1.status = .running := rfl
set_option maxRecDepth 65536 in
theorem w_room : about1.hasRoom e0.platform room_1 = true :=
  launch0.hasRoom_least _ room_1 (by decide +kernel) (by decide +kernel) (by decide +kernel) (by decide +kernel) (by decide +kernel) (by decide +kernel)
theorem allAtoms_all (ts : List Jvm.Cond) (a : Array Jvm.Value) (st : Jvm.State) : (allAtoms ts).before a st = ts.all (fun c => c.before a st) := by
  induction ts with
  | nil => rfl
  | cons c t ih =>
    show (Jvm.Cond.and c (allAtoms t)).before a st = _
    rw [Jvm.Cond.before_and, ih, List.all_cons]
def words1 : List Jvm.Cond := Jvm.Cond.code x code maxLocals ret :: tables_1
/-- a 'code' word, met by the world's own term for the bytes: nothing is compared byte by byte -/
theorem code_word {y : MethodName} {bytes : ByteArray} {mx : Nat} {rt : Option FieldType} {a : Array Value} {s : State} {m : MethodId} {meth : Method} {c : Code} (h1 : s.methodNamed? y = some m) (h2 : s.vm.method? m = some meth) (h3 : meth.code = some c) (h4 : c.code = bytes)
    (h5 : (c.maxLocals == mx && c.exceptionTable.isEmpty && decide (c.maxStack ≤ mostOperands) && decide (meth.sig.returnType = rt) && !meth.locks && decide (parseMethodDescriptor y.desc = some meth.sig)) = true) : (Jvm.Cond.code y bytes mx rt).before a s = true := by
  simp only [Bool.and_eq_true, beq_iff_eq, Bool.not_eq_true', decide_eq_true_eq] at h5
  obtain ⟨⟨⟨⟨⟨g1, g2⟩, g3⟩, g4⟩, g5⟩, g6⟩ := h5
  simp [Cond.before, Cond.holds, Cond.value, h1, h2, h3, h4, g1, g2, g3, g4, g5, g6]
def isCode : Jvm.Cond → Bool
  | .code _ _ _ _ => true
  | _ => false
theorem all_split {L : List Jvm.Cond} {P : Jvm.Cond → Bool} (h1 : L.all (fun c => isCode c || P c) = true) (h2 : ∀ c ∈ L.filter isCode, P c = true) : L.all P = true := by
  refine List.all_eq_true.mpr fun c hc => ?_
  have h := List.all_eq_true.mp h1 c hc
  rcases Bool.eq_false_or_eq_true (isCode c) with hi | hi
  · exact h2 c (List.mem_filter.mpr ⟨hc, hi⟩)
  · simpa [hi] using h
set_option maxRecDepth 65536 in
theorem w_c0 : (Jvm.Cond.code x code maxLocals ret).before args0 about1 = true := code_word (m := ⟨1, 1⟩) (meth := k1m1) (c := k1c1) (by decide +kernel) rfl rfl rfl (by decide +kernel)
set_option maxRecDepth 65536 in
theorem w_c1 : (Jvm.Cond.code ({ cls := "com/example/elis/elis/Commit", name := "<init>", desc := "()V" } : Jvm.MethodName) prog_7_method_1_code (1 : Nat) (Option.none : Option Jvm.ClassFile.FieldType)).before args0 about1 = true := code_word (m := ⟨2, 0⟩) (meth := k2m0) (c := k2c0) (by decide +kernel) rfl rfl rfl (by decide +kernel)
set_option maxRecDepth 65536 in
theorem w_c2 : (Jvm.Cond.code ({ cls := "java/lang/Object", name := "<init>", desc := "()V" } : Jvm.MethodName) object_method_1_code (1 : Nat) (Option.none : Option Jvm.ClassFile.FieldType)).before args0 about1 = true := code_word (m := ⟨0, 0⟩) (meth := k0m0) (c := k0c0) (by decide +kernel) rfl rfl rfl (by decide +kernel)
set_option maxRecDepth 65536 in
theorem w_c3 : (Jvm.Cond.code ({ cls := "com/example/elis/elis/Commit", name := "firstOverwriter", desc := "()J" } : Jvm.MethodName) prog_7_method_13_code (1 : Nat) (Option.some Jvm.ClassFile.FieldType.long)).before args0 about1 = true := code_word (m := ⟨2, 1⟩) (meth := k2m1) (c := k2c1) (by decide +kernel) rfl rfl rfl (by decide +kernel)
set_option maxRecDepth 65536 in
theorem w_c4 : (Jvm.Cond.code ({ cls := "com/example/elis/elis/Commit", name := "overwrittenBy", desc := "(J)V" } : Jvm.MethodName) prog_7_method_14_code (3 : Nat) (Option.none : Option Jvm.ClassFile.FieldType)).before args0 about1 = true := code_word (m := ⟨2, 2⟩) (meth := k2m2) (c := k2c2) (by decide +kernel) rfl rfl rfl (by decide +kernel)
set_option maxRecDepth 65536 in
theorem w_c5 : (Jvm.Cond.code ({ cls := "java/lang/Math", name := "min", desc := "(JJ)J" } : Jvm.MethodName) jdk_29_method_70_code (4 : Nat) (Option.some Jvm.ClassFile.FieldType.long)).before args0 about1 = true := code_word (m := ⟨3, 1⟩) (meth := k3m1) (c := k3c1) (by decide +kernel) rfl rfl rfl (by decide +kernel)
def codes1 : List Jvm.Cond := [Jvm.Cond.code x code maxLocals ret, Jvm.Cond.code ({ cls := "com/example/elis/elis/Commit", name := "<init>", desc := "()V" } : Jvm.MethodName) prog_7_method_1_code (1 : Nat) (Option.none : Option Jvm.ClassFile.FieldType), Jvm.Cond.code ({ cls := "java/lang/Object", name := "<init>", desc := "()V" } : Jvm.MethodName) object_method_1_code (1 : Nat) (Option.none : Option Jvm.ClassFile.FieldType), Jvm.Cond.code ({ cls := "com/example/elis/elis/Commit", name := "firstOverwriter", desc := "()J" } : Jvm.MethodName) prog_7_method_13_code (1 : Nat) (Option.some Jvm.ClassFile.FieldType.long), Jvm.Cond.code ({ cls := "com/example/elis/elis/Commit", name := "overwrittenBy", desc := "(J)V" } : Jvm.MethodName) prog_7_method_14_code (3 : Nat) (Option.none : Option Jvm.ClassFile.FieldType), Jvm.Cond.code ({ cls := "java/lang/Math", name := "min", desc := "(JJ)J" } : Jvm.MethodName) jdk_29_method_70_code (4 : Nat) (Option.some Jvm.ClassFile.FieldType.long)]
set_option maxRecDepth 65536 in
theorem codes_eq : words1.filter isCode = codes1 := rfl
theorem w_codes : ∀ c ∈ words1.filter isCode, c.before args0 about1 = true := by
  rw [codes_eq]
  intro c hc
  simp only [codes1, List.mem_cons, List.not_mem_nil, or_false] at hc
  rcases hc with rfl | rfl | rfl | rfl | rfl | rfl
  · exact w_c0
  · exact w_c1
  · exact w_c2
  · exact w_c3
  · exact w_c4
  · exact w_c5
set_option maxRecDepth 65536 in
theorem w_t1 : (words1.take 24).all (fun c => isCode c || c.before args0 about1) = true := by decide +kernel
set_option maxRecDepth 65536 in
theorem w_t2 : (words1.drop 24).all (fun c => isCode c || c.before args0 about1) = true := by decide +kernel
theorem w_tables : (allAtoms (Jvm.Cond.code x code maxLocals ret :: tables_1)).before args0 about1 = true := by
  rw [allAtoms_all]
  show words1.all (fun c => c.before args0 about1) = true
  refine all_split ?_ w_codes
  rw [← List.take_append_drop 24 words1, List.all_append, w_t1, w_t2]
  rfl
set_option maxRecDepth 65536 in
theorem w_case : (Jvm.Cond.and given_1 narrow_1).before args0 about1 = true := by decide +kernel
theorem w_applies : (headSpec (Jvm.Cond.code x code maxLocals ret :: tables_1) room_1).applies x e0.platform about1 = true :=
  (Spec.applies_iff w_frames).mpr ⟨w_running, w_runnable, w_alone, w_named, w_hears, w_ripe, w_room, w_tables⟩
theorem atStart : AtStart classFile x code maxLocals ret World_1 tables_1 room_1 Calls_1 rest_1 Pre_1 launch0 p0 e0 about1 theMethod args0 below0 :=
  ⟨lists_1, trivial, launch0.admits_env _ _ _, launch0.least_env, fairChoices_fair.cas, fairChoices_fair.clock, w_frames, w_args, w_heap, w_applies, trivial, trivial, w_case⟩
end start1
theorem witness_1 : WitnessClaimed_1 := ⟨start1.p0, start1.e0, start1.about1, start1.theMethod, start1.args0, start1.below0, start1.atStart⟩
end Jvm.Pilot.@@N@@
