import JvmDerived
import JvmDerived.Pilot.@@N@@Statement
import JvmDerived.Pilot.@@N@@Code
set_option linter.unusedVariables false
set_option linter.unusedSimpArgs false
namespace Jvm.RoadKit
open Sem ClassFile Op Lib Jvm.Stand Jvm.Free Jvm.LawKit
section New
variable {p : Program} {l : Launch} {e : Env} {R : Room} {s : State} {m : MethodId} {args : Array Value} {below : List Frame} {meth : Method} {c : Code} {T : State} {locs : List Loc} {cells slots : Nat}
theorem retI (X : Stand p l e R s m args below meth c T locs cells slots) (hx : p.tables.exec = Jvm.exec) {pc : Nat} {Ls : Array Slot} {z : Int32} {rest : List Value} (hret : meth.sig.returnType = some .int) (hd : decode c.code pc = .ok (.ireturn, 1)) {fs : List Frame}
    (hl : ∀ (f : JFrame) (acts : List Action), f.method = m → f.locked = none → f.entered = [] → (doReturn e (T.setTop f) acts (some (.int z))).1 = T.setFrames fs) : Steps p.tables e below (T.setTop (mkF m pc Ls (.int z :: rest))) (T.setFrames fs) := by
  have hm' : T.vm.method? m = some meth := X.method'
  have hn : narrow .int (.int z) = .int z := rfl
  show Steps p.tables e below (T.setTop { method := m, pc := pc, locals := Ls, stack := _ :: rest, locked := none }) _
  jvm_step X.here [X.here.top, hx, hd, hm', hret, hn]
  first | (intro acts; rw [hl _ acts rfl rfl rfl]) | rw [hl _ _ rfl rfl rfl]
  exact Steps.refl _
end New
end Jvm.RoadKit
namespace Jvm.Pilot.@@N@@
open Jvm Jvm.ClassFile Sem Op Lib Jvm.Free Jvm.Stand Jvm.LawKit Jvm.RoadKit Bundle Jvm.Pilot.@@N@@.Jvm.D
/-- what is still to come: from the frame g at T the run comes to an end that Q takes -/
def own_WP (p : Program) (e : Env) (below : List Frame) (Q : Outcome → State → Prop) (T : State) (g : JFrame) : Prop :=
  ∃ s₂ o, Steps p.tables e below (T.setTop g) s₂ ∧ s₂.status = .running ∧ Ended s₂ below o ∧ Q o s₂
def own_Q (s : State) (P : Option Value → Heap → List Loc → Prop) (C S : Nat) (o : Outcome) (U : State) : Prop :=
  ∃ v L, o = .returned v ∧ P v U.heap L ∧ FrameEnd s o U L C S
def own_Ctx (p : Program) (s : State) (m : MethodId) (meth : Method) (c : Code) (Z : State) (y : MethodName) (bytes : ByteArray) (maxL : Nat) (rt : Option FieldType) : Prop :=
  p.tables.exec = Jvm.exec ∧ Z.Warmed39 s.vm ∧ c.code = bytes ∧ c.maxLocals = maxL ∧ s.vm.findClass y.cls = some m.cls ∧ meth.name = y.name ∧ meth.sig.returnType = rt ∧ meth.locks = false
def own_Met (l : Launch) (Z : State) (y : MethodName) (bytes : ByteArray) (maxL : Nat) (rt : Option FieldType) (ws : List Jvm.Cond) (rm : Room) (as' : Array Value) (h : Heap) (P : Option Value → Heap → List Loc → Prop) : Prop :=
  MetFree l y (head1 (Jvm.Cond.code y bytes maxL rt :: ws) rm) (fun a U => a = as' ∧ Z.Warmed39 U.vm ∧ U.heap = h) (fun _ _ _ _ _ => True) (fun _ U o U' => ∃ v L, o = .returned v ∧ P v U'.heap L ∧ FrameEnd U o U' L rm.cells rm.slots)
section Own
variable {p : Program} {l : Launch} {e : Env} {R : Room} {s : State} {m : MethodId} {args : Array Value} {below : List Frame} {meth : Method} {c : Code} {T T' : State} {locs : List Loc} {cells slots : Nat} {Z : State} {a0 : Array Value} {y : MethodName} {bytes : ByteArray} {maxL : Nat} {rt : Option FieldType} {P : Option Value → Heap → List Loc → Prop} {Q : Outcome → State → Prop}
theorem own_go {g g' : JFrame} (st : ∀ t, Steps p.tables e below (T'.setTop g') t → Steps p.tables e below (T.setTop g) t) (h : own_WP p e below Q T' g') : own_WP p e below Q T g := by
  obtain ⟨s₂, o, h1, h2⟩ := h
  exact ⟨s₂, o, st _ h1, h2⟩
theorem own_body {ws : List Jvm.Cond} {rm : Room} {as' : Array Value} {h : Heap} (hp : plainFor y = true)
    (body : ∀ p e s m below meth c s₁, own_Ctx p s m meth c Z y bytes maxL rt → Stand p l e rm s m as' below meth c s₁ [] 0 0 → s₁.heap = h → own_WP p e below (own_Q s P rm.cells rm.slots) s₁ (entryFrame m as' maxL)) :
    own_Met l Z y bytes maxL rt ws rm as' h P := by
  refine MetFree.of_bodySF hp hisR ?_
  intro p e s m args below meth c s₁ Bd hml0 hP hK
  obtain ⟨rfl, hZ, hh⟩ := hP
  exact body p e s m below meth c s₁ ⟨Bd.exec, hZ, Bd.bytes, hml0, findClass_of_methodNamed Bd.named, (name_of_methodNamed Bd.named Bd.method).1, Bd.returns, Bd.notSynchronized⟩ (Stand.of_body Bd) (by rw [← hh, Bd.state]; rfl)
theorem own_cast {g g' : JFrame} (q : g = g') (k : own_WP p e below Q T g') : own_WP p e below Q T g := q ▸ k
theorem own_retI (X : Stand p l e R s m args below meth c T locs cells slots) (C : own_Ctx p s m meth c Z y bytes maxL (some .int)) {pc : Nat} {Ls : Array Slot} {z : Int32} {rest : List Value} {CC SS : Nat}
    (hd : decode c.code pc = .ok (.ireturn, 1)) (hP : P (some (.int z)) T.heap locs) (hc : cells ≤ CC) (hs : slots ≤ SS) : own_WP p e below (own_Q s P CC SS) T (mkF m pc Ls (.int z :: rest)) := by
  obtain ⟨hx, -, -, -, -, -, hr, hlk⟩ := C
  obtain ⟨fs, hrr, hrun, hended, hW, hsame⟩ := X.leave (v := some (.int z)) (fun h => by rw [hr] at h; cases h) hlk
  exact ⟨_, _, retI X hx hr hd hrr, hrun, hended, _, _, rfl, hP, ⟨_, rfl⟩, hW, hsame.mono hc hs⟩
theorem own_retN {t : FieldType} (X : Stand p l e R s m args below meth c T locs cells slots) (C : own_Ctx p s m meth c Z y bytes maxL (some t)) (ht : t = .boolean ∨ t = .byte ∨ t = .char ∨ t = .short) {pc : Nat} {Ls : Array Slot} {z : Int32} {rest : List Value} {CC SS : Nat}
    (hd : decode c.code pc = .ok (.ireturn, 1)) (hP : P (some (.int (nar t z))) T.heap locs) (hc : cells ≤ CC) (hs : slots ≤ SS) : own_WP p e below (own_Q s P CC SS) T (mkF m pc Ls (.int z :: rest)) := by
  obtain ⟨hx, -, -, -, -, -, hr, hlk⟩ := C
  obtain ⟨fs, hrr, hrun, hended, hW, hsame⟩ := X.leave (v := some (.int (nar t z))) (fun h => by rw [hr] at h; cases h) hlk
  exact ⟨_, _, retN X hx hr ht hd hrr, hrun, hended, _, _, rfl, hP, ⟨_, rfl⟩, hW, hsame.mono hc hs⟩
theorem own_retL (X : Stand p l e R s m args below meth c T locs cells slots) (C : own_Ctx p s m meth c Z y bytes maxL (some .long)) {pc : Nat} {Ls : Array Slot} {z : Int64} {CC SS : Nat}
    (hd : decode c.code pc = .ok (.lreturn, 1)) (hP : P (some (.long z)) T.heap locs) (hc : cells ≤ CC) (hs : slots ≤ SS) : own_WP p e below (own_Q s P CC SS) T (mkF m pc Ls [.long z]) := by
  obtain ⟨hx, -, -, -, -, -, hr, hlk⟩ := C
  obtain ⟨fs, hrr, hrun, hended, hW, hsame⟩ := X.leave (v := some (.long z)) (fun h => by rw [hr] at h; cases h) hlk
  exact ⟨_, _, X.lreturnOut hx hr hd hrr, hrun, hended, _, _, rfl, hP, ⟨_, rfl⟩, hW, hsame.mono hc hs⟩
theorem own_retV (X : Stand p l e R s m args below meth c T locs cells slots) (C : own_Ctx p s m meth c Z y bytes maxL none) {pc : Nat} {Ls : Array Slot} {CC SS : Nat}
    (hd : decode c.code pc = .ok (.return_, 1)) (hP : P none T.heap locs) (hc : cells ≤ CC) (hs : slots ≤ SS) : own_WP p e below (own_Q s P CC SS) T (mkF m pc Ls []) := by
  obtain ⟨hx, -, -, -, -, -, hr, hlk⟩ := C
  obtain ⟨fs, hrr, hrun, hended, hW, hsame⟩ := X.leave (v := none) (fun _ => rfl) hlk
  exact ⟨_, _, X.returnOut hx hr hd hrr, hrun, hended, _, _, rfl, hP, ⟨_, rfl⟩, hW, hsame.mono hc hs⟩
theorem own_retA {t : FieldType} (X : Stand p l e R s m args below meth c T locs cells slots) (C : own_Ctx p s m meth c Z y bytes maxL (some t)) (ht : t.isReference = true) {pc : Nat} {Ls : Array Slot} {a : Addr} {CC SS : Nat}
    (hd : decode c.code pc = .ok (.areturn, 1)) (hP : P (some (.ref a)) T.heap locs) (hc : cells ≤ CC) (hs : slots ≤ SS) : own_WP p e below (own_Q s P CC SS) T (mkF m pc Ls [.ref a]) := by
  obtain ⟨hx, -, -, -, -, -, hr, hlk⟩ := C
  obtain ⟨fs, hrr, hrun, hended, hW, hsame⟩ := X.leave (v := some (.ref a)) (fun h => by rw [hr] at h; cases h) hlk
  exact ⟨_, _, X.areturnOut hx rfl hr ht hd hrr, hrun, hended, _, _, rfl, hP, ⟨_, rfl⟩, hW, hsame.mono hc hs⟩
/-- a static call by the callee's contract -/
theorem own_callS (X : Stand p l e R s m args below meth c T locs cells slots) (C : own_Ctx p s m meth c Z y bytes maxL rt) {idx : Nat} {y' : MethodName} {bytes' : ByteArray} {maxL' : Nat} {rt' : Option FieldType} {rm' : Room} {argsL rest : List Value} {h : Heap} {P' : Option Value → Heap → List Loc → Prop}
    (hM : own_Met l Z y' bytes' maxL' rt' [] rm' argsL.toArray h P') (w1 : (Cond.methodLink y.cls idx y').before a0 Z = true) (w2 : (Cond.static y').before a0 Z = true) (w3 : (Cond.initialized y'.cls).before a0 Z = true) (w4 : (Cond.code y' bytes' maxL' rt').before a0 Z = true)
    (hy : y'.cls ≠ "java/lang/invoke/MethodHandle" ∧ y'.cls ≠ "java/lang/invoke/VarHandle") (eT : T.heap = h) {W : Nat} {pc : Nat} {Ls : Array Slot} (hsz : Ls.size = maxL) (hlen : ∀ sig, parseMethodDescriptor y'.desc = some sig → argsL.length = sig.parameters.length)
    {stk : List Value} (hst : stk = argsL.reverse ++ rest) (hW : (rest.map fun v => v.category).sum ≤ W) (hd : decode c.code pc = .ok (.invokestatic idx, 3))
    (hf : rm'.frames + 1 ≤ R.frames) (hl : W + (maxL' + 11) + rm'.locals ≤ R.locals) (hc : cells + rm'.cells ≤ R.cells) (hs : slots + rm'.slots ≤ R.slots) :
    ∃ T' v L, Stand p l e R s m args below meth c T' (locs ++ L) (cells + rm'.cells) (slots + rm'.slots) ∧ P' v T'.heap L ∧ ∀ t, Steps p.tables e below (T'.setTop (mkF m (pc + 3) Ls (v.toList ++ rest))) t → Steps p.tables e below (T.setTop (mkF m pc Ls stk)) t := by
  obtain ⟨hx, hZ, hby, hml, hown, hnm, hr, hlk⟩ := C
  obtain ⟨v, _, ⟨T', L', k', n'⟩, -, X', ⟨L, hQ, hl', hk', hn'⟩, st⟩ := Jvm.LawKit.callS X hx (y := y') hown (mvT hZ w1) (mvT hZ w2) (mvT hZ w3) (mvT hZ w4) hy (backOf (W := W) hM hZ w4 w3 hf hl) (g := mkF m pc Ls stk) rfl (by rw [hml]; exact hsz) (argsL := argsL) (rest := rest) hlen hst (by show 2 * 0 + _ ≤ _; omega) hd (fun _ _ => ⟨rfl, eT, hc, hs⟩)
  dsimp only [Pt.U, Pt.locs, Pt.cells, Pt.slots] at X' hl' hk' hn' st hQ
  subst hl' hk' hn'
  exact ⟨T', v, L, X', hQ, st⟩
/-- a constructor by its contract -/
theorem own_callN (X : Stand p l e R s m args below meth c T locs cells slots) (C : own_Ctx p s m meth c Z y bytes maxL rt) {idx : Nat} {y' : MethodName} {bytes' : ByteArray} {maxL' : Nat} {rm' : Room} {a : Addr} {argsL rest : List Value} {h : Heap} {P' : Option Value → Heap → List Loc → Prop}
    (hM : own_Met l Z y' bytes' maxL' none [] rm' (.ref a :: argsL).toArray h P') (hyn : y'.name = "<init>") (w1 : (Cond.methodLink y.cls idx y').before a0 Z = true) (w2 : (Cond.instanceMethod y').before a0 Z = true) (w3 : (Cond.initialized y'.cls).before a0 Z = true) (w4 : (Cond.code y' bytes' maxL' none).before a0 Z = true)
    (hy : y'.cls ≠ "java/lang/invoke/MethodHandle" ∧ y'.cls ≠ "java/lang/invoke/VarHandle") (eT : T.heap = h) {W : Nat} {pc : Nat} {Ls : Array Slot} (hsz : Ls.size = maxL) (hlen : ∀ sig, parseMethodDescriptor y'.desc = some sig → argsL.length = sig.parameters.length)
    {stk : List Value} (hst : stk = argsL.reverse ++ .ref a :: rest) (hW : (rest.map fun v => v.category).sum ≤ W) (hd : decode c.code pc = .ok (.invokespecial idx, 3))
    (hf : rm'.frames + 1 ≤ R.frames) (hl : W + (maxL' + 11) + rm'.locals ≤ R.locals) (hc : cells + rm'.cells ≤ R.cells) (hs : slots + rm'.slots ≤ R.slots) :
    ∃ T' v L, Stand p l e R s m args below meth c T' (locs ++ L) (cells + rm'.cells) (slots + rm'.slots) ∧ P' v T'.heap L ∧ ∀ t, Steps p.tables e below (T'.setTop (mkF m (pc + 3) Ls (v.toList ++ rest))) t → Steps p.tables e below (T.setTop (mkF m pc Ls stk)) t := by
  obtain ⟨hx, hZ, hby, hml, hown, hnm, hr, hlk⟩ := C
  obtain ⟨v, _, ⟨T', L', k', n'⟩, -, X', ⟨L, hQ, hl', hk', hn'⟩, st⟩ := X.specialBack hx (y := y') hyn hown (mvT hZ w1) (mvT hZ w2) (mvT hZ w4) hy (backOf (W := W) hM hZ w4 w3 hf hl) (g := mkF m pc Ls stk) rfl (by rw [hml]; exact hsz) (Steps.refl _) (a := a) (argsL := argsL) (rest := rest) hlen hst (by show 2 * 0 + _ ≤ _; omega) hd (fun _ _ => ⟨rfl, eT, hc, hs⟩)
  dsimp only [Pt.U, Pt.locs, Pt.cells, Pt.slots] at X' hl' hk' hn' st hQ
  subst hl' hk' hn'
  exact ⟨T', v, L, X', hQ, fun t k => st.trans k⟩
/-- an instance method by the contract of the body that is selected (the class that declares it is the receiver's own) -/
theorem own_callV (X : Stand p l e R s m args below meth c T locs cells slots) (C : own_Ctx p s m meth c Z y bytes maxL rt) {idx : Nat} {y' : MethodName} {bytes' : ByteArray} {maxL' : Nat} {rt' : Option FieldType} {rm' : Room} {a : Addr} {argsL rest : List Value} {h : Heap} {P' : Option Value → Heap → List Loc → Prop}
    (hM : own_Met l Z y' bytes' maxL' rt' [] rm' (.ref a :: argsL).toArray h P') (w1 : (Cond.methodLink y.cls idx y').before a0 Z = true) (wd : (Cond.declares y').before a0 Z = true) (wsel : (Cond.selects y'.cls y' y').before a0 Z = true) (w2 : (Cond.instanceMethod y').before a0 Z = true) (w3 : (Cond.initialized y'.cls).before a0 Z = true) (w4 : (Cond.code y' bytes' maxL' rt').before a0 Z = true)
    (hy : y'.cls ≠ "java/lang/invoke/MethodHandle" ∧ y'.cls ≠ "java/lang/invoke/VarHandle") (eT : T.heap = h) (E : Exa Z h a y'.cls) {W : Nat} {pc : Nat} {Ls : Array Slot} (hsz : Ls.size = maxL) (hlen : ∀ sig, parseMethodDescriptor y'.desc = some sig → argsL.length = sig.parameters.length)
    {stk : List Value} (hst : stk = argsL.reverse ++ .ref a :: rest) (hW : (rest.map fun v => v.category).sum ≤ W) (hd : decode c.code pc = .ok (.invokevirtual idx, 3))
    (hf : rm'.frames + 1 ≤ R.frames) (hl : W + (maxL' + 11) + rm'.locals ≤ R.locals) (hc : cells + rm'.cells ≤ R.cells) (hs : slots + rm'.slots ≤ R.slots) :
    ∃ T' v L, Stand p l e R s m args below meth c T' (locs ++ L) (cells + rm'.cells) (slots + rm'.slots) ∧ P' v T'.heap L ∧ ∀ t, Steps p.tables e below (T'.setTop (mkF m (pc + 3) Ls (v.toList ++ rest))) t → Steps p.tables e below (T.setTop (mkF m pc Ls stk)) t := by
  obtain ⟨hx, hZ, hby, hml, hown, hnm, hr, hlk⟩ := C
  obtain ⟨cq, kq, qa, qb, qc⟩ := isOf hZ eT E
  obtain ⟨v, _, ⟨T', L', k', n'⟩, -, X', ⟨L, hQ, hl', hk', hn'⟩, st⟩ := X.virtualBack hx (y := y') (z := y') hown (mvT hZ w1) (mvT hZ wd) (notFace_of_selects (args := #[]) (mvT hZ wsel)) (mvT hZ wsel) (mvT hZ w2) hy (backOf (W := W) hM hZ w4 w3 hf hl) qa qc (g := mkF m pc Ls stk) rfl (by rw [hml]; exact hsz) (Steps.refl _) (argsL := argsL) (rest := rest) hlen hst (by show 2 * 0 + _ ≤ _; omega) hd (fun _ _ => ⟨rfl, eT, hc, hs⟩)
  dsimp only [Pt.U, Pt.locs, Pt.cells, Pt.slots] at X' hl' hk' hn' st hQ
  subst hl' hk' hn'
  exact ⟨T', v, L, X', hQ, fun t k => st.trans k⟩
end Own
end Jvm.Pilot.@@N@@
namespace Jvm.Pilot.@@N@@
open Jvm Jvm.ClassFile Sem Op Lib Jvm.Free Jvm.Stand Jvm.LawKit Jvm.RoadKit Bundle Jvm.Pilot.@@N@@.Jvm.D
/-- the array at b holds just vs -/
def own_A (Z : State) (h : Heap) (b : Addr) (ty : FieldType) (vs : List Value) : Prop := Exa Z h b ("[" ++ ty.toString) ∧ ∃ c : Cell, Arr Z h b c ty ∧ c.slots = vs.toArray ∧ vs.length < 2147483648 ∧ ∀ v ∈ vs, fits ty v = true
def own_AI (Z : State) (h : Heap) (b : Addr) (ty : FieldType) (vs : List Int32) : Prop := own_A Z h b ty (vs.map Value.int)
def own_AJ (Z : State) (h : Heap) (b : Addr) (ty : FieldType) (vs : List Int64) : Prop := own_A Z h b ty (vs.map Value.long)
def own_get {α : Type} (vs : List α) (j : Int32) : Option α := if j < 0 then none else vs[j.toNatClampNeg]?
def own_set {α : Type} (vs : List α) (j : Int32) (x : α) : Option (List α) := if j < 0 then none else if j.toNatClampNeg < vs.length then some (vs.set j.toNatClampNeg x) else none
theorem own_bind {α β : Type} {o : Option α} {f : α → Option β} {r : β} (h : o.bind f = some r) : ∃ v, o = some v ∧ f v = some r := by
  cases o with
  | none => cases h
  | some v => exact ⟨v, rfl, h⟩
def own_let {α β : Type} (a : α) (f : α → β) : β := f a
theorem own_letE {α β : Type} {a : α} {f : α → β} {r : β} (h : own_let a f = r) : f a = r := h
theorem own_ne {a b : Nat} (h : a < b ∨ b < a) : @Ne Addr a b := by
  intro e
  rcases h with h | h
  · exact Nat.lt_irrefl _ (e ▸ h)
  · exact Nat.lt_irrefl _ (e ▸ h)
theorem own_cap {n : Int32} {c : Int} {k : Nat} (hk : c = (k : Int)) (h : ¬ c < n.toInt) : n.toNatClampNeg ≤ k := by
  have q : n.toNatClampNeg = n.toInt.toNat := rfl
  rw [q]; omega
section Own
variable {p : Program} {l : Launch} {e : Env} {R : Room} {s : State} {m : MethodId} {args : Array Value} {below : List Frame} {meth : Method} {c : Code} {T T' : State} {locs : List Loc} {cells slots : Nat} {Z : State} {a0 : Array Value} {y : MethodName} {bytes : ByteArray} {maxL : Nat} {rt : Option FieldType} {h h' : Heap} {a b : Addr} {ty : FieldType}
theorem own_A.lt {vs : List Value} (F : own_A Z h b ty vs) : b < h.size := by obtain ⟨E, c, A, -⟩ := F; exact A.lt
theorem own_A.ext {vs : List Value} (F : own_A Z h b ty vs) (E : Ext h h') : own_A Z h' b ty vs := by obtain ⟨Q, c, A, r⟩ := F; exact ⟨Q.ext E, c, A.ext E, r⟩
theorem own_A.other {vs : List Value} {sl : Nat} {v : Value} (F : own_A Z h b ty vs) (W : Wr h h' a sl v) (q : b ≠ a) : own_A Z h' b ty vs := by obtain ⟨Q, c, A, r⟩ := F; exact ⟨Q.wr W, c, A.other W q, r⟩
theorem own_A.keep {vs : List Value} {ws : List Addr} (F : own_A Z h b ty vs) (K : Keep h h' ws) (q : b ∉ ws) : own_A Z h' b ty vs := by obtain ⟨Q, c, A, r⟩ := F; exact ⟨Q.keep K, c, ⟨K.2.1 b c A.1 q, A.2⟩, r⟩
theorem own_A.set {vs : List Value} {j : Nat} {v : Value} (F : own_A Z h b ty vs) (W : Wr h h' b j v) (hv : fits ty v = true) : own_A Z h' b ty (vs.set j v) := by
  obtain ⟨Q, c, A, r1, r2, r3⟩ := F
  refine ⟨Q.wr W, _, A.same W, ?_, by simpa using r2, ?_⟩
  · show c.slots.setIfInBounds j v = _
    rw [r1]; simp
  · intro u hu
    rcases List.mem_or_eq_of_mem_set hu with q | q
    · exact r3 u q
    · rw [q]; exact hv
theorem own_AI.lt {vs : List Int32} (F : own_AI Z h b ty vs) : b < h.size := own_A.lt F
theorem own_AI.ext {vs : List Int32} (F : own_AI Z h b ty vs) (E : Ext h h') : own_AI Z h' b ty vs := own_A.ext F E
theorem own_AI.other {vs : List Int32} {sl : Nat} {v : Value} (F : own_AI Z h b ty vs) (W : Wr h h' a sl v) (q : b ≠ a) : own_AI Z h' b ty vs := own_A.other F W q
theorem own_AI.keep {vs : List Int32} {ws : List Addr} (F : own_AI Z h b ty vs) (K : Keep h h' ws) (q : b ∉ ws) : own_AI Z h' b ty vs := own_A.keep F K q
theorem own_AJ.lt {vs : List Int64} (F : own_AJ Z h b ty vs) : b < h.size := own_A.lt F
theorem own_AJ.ext {vs : List Int64} (F : own_AJ Z h b ty vs) (E : Ext h h') : own_AJ Z h' b ty vs := own_A.ext F E
theorem own_AJ.other {vs : List Int64} {sl : Nat} {v : Value} (F : own_AJ Z h b ty vs) (W : Wr h h' a sl v) (q : b ≠ a) : own_AJ Z h' b ty vs := own_A.other F W q
theorem own_AJ.keep {vs : List Int64} {ws : List Addr} (F : own_AJ Z h b ty vs) (K : Keep h h' ws) (q : b ∉ ws) : own_AJ Z h' b ty vs := own_A.keep F K q
theorem own_A.place {α : Type} {f : α → Value} {vs : List α} {j : Int32} {v : α} (F : own_A Z h b ty (vs.map f)) (g : own_get vs j = some v) : ∃ c : Cell, Arr Z h b c ty ∧ ¬ (j < 0 ∨ c.slots.size ≤ j.toNatClampNeg) ∧ c.slots[j.toNatClampNeg]? = some (f v) := by
  obtain ⟨-, c, A, r1, r2, -⟩ := F
  unfold own_get at g
  split at g
  · cases g
  · rename_i hj
    obtain ⟨hlt, hv⟩ := List.getElem?_eq_some_iff.mp g
    refine ⟨c, A, ?_, ?_⟩
    · rintro (q | q)
      · exact hj q
      · rw [r1] at q; simp at q; omega
    · rw [r1]; simp [g]
theorem own_A.room {α : Type} {f : α → Value} {vs vs' : List α} {j : Int32} {v : α} (F : own_A Z h b ty (vs.map f)) (g : own_set vs j v = some vs') : ∃ c : Cell, Arr Z h b c ty ∧ ¬ (j < 0 ∨ c.slots.size ≤ j.toNatClampNeg) ∧ vs' = vs.set j.toNatClampNeg v := by
  obtain ⟨-, c, A, r1, r2, -⟩ := F
  unfold own_set at g
  split at g
  · cases g
  · rename_i hj
    split at g
    · rename_i hlt
      refine ⟨c, A, ?_, (Option.some.inj g).symm⟩
      rintro (q | q)
      · exact hj q
      · rw [r1] at q; simp at q; omega
    · cases g
theorem own_iaload (X : Stand p l e R s m args below meth c T locs cells slots) (C : own_Ctx p s m meth c Z y bytes maxL rt) (eT : T.heap = h) {vs : List Int32} (F : own_AI Z h b .int vs) {j v : Int32} (g : own_get vs j = some v) {pc : Nat} {Ls : Array Slot} {rest : List Value} (hd : decode c.code pc = .ok (.iaload, 1)) :
    ∀ t, Steps p.tables e below (T.setTop (mkF m (pc + 1) Ls (.int v :: rest))) t → Steps p.tables e below (T.setTop (mkF m pc Ls (.int j :: .ref b :: rest))) t := by
  obtain ⟨hx, hZ, -⟩ := C
  obtain ⟨cl, A, hin, hat⟩ := own_A.place F g
  intro t k
  exact X.iaload hx (j := j) (v := .int v) (by rw [eT]; exact A.1) (State.isArrayOf_alike hZ.alike A.2.1) A.2.2 hin hat (g := mkF m pc Ls (.int j :: .ref b :: rest)) rfl rfl hd t k
theorem own_baload (X : Stand p l e R s m args below meth c T locs cells slots) (C : own_Ctx p s m meth c Z y bytes maxL rt) (eT : T.heap = h) {vs : List Int32} (F : own_AI Z h b .byte vs) {j v : Int32} (g : own_get vs j = some v) {pc : Nat} {Ls : Array Slot} {rest : List Value} (hd : decode c.code pc = .ok (.baload, 1)) :
    ∀ t, Steps p.tables e below (T.setTop (mkF m (pc + 1) Ls (.int v :: rest))) t → Steps p.tables e below (T.setTop (mkF m pc Ls (.int j :: .ref b :: rest))) t := by
  obtain ⟨hx, hZ, -⟩ := C
  obtain ⟨cl, A, hin, hat⟩ := own_A.place F g
  intro t k
  exact X.baloadBytes hx (j := j) (v := .int v) (by rw [eT]; exact A.1) (State.isArrayOf_alike hZ.alike A.2.1) A.2.2 hin hat (g := mkF m pc Ls (.int j :: .ref b :: rest)) rfl rfl hd t k
theorem own_laload (X : Stand p l e R s m args below meth c T locs cells slots) (C : own_Ctx p s m meth c Z y bytes maxL rt) (eT : T.heap = h) {vs : List Int64} (F : own_AJ Z h b .long vs) {j : Int32} {v : Int64} (g : own_get vs j = some v) {pc : Nat} {Ls : Array Slot} {rest : List Value} (hd : decode c.code pc = .ok (.laload, 1)) :
    ∀ t, Steps p.tables e below (T.setTop (mkF m (pc + 1) Ls (.long v :: rest))) t → Steps p.tables e below (T.setTop (mkF m pc Ls (.int j :: .ref b :: rest))) t := by
  obtain ⟨hx, hZ, -⟩ := C
  obtain ⟨cl, A, hin, hat⟩ := own_A.place F g
  intro t k
  exact X.laload hx (j := j) (v := .long v) (by rw [eT]; exact A.1) (State.isArrayOf_alike hZ.alike A.2.1) A.2.2 hin hat (g := mkF m pc Ls (.int j :: .ref b :: rest)) rfl rfl hd t k
theorem own_len (X : Stand p l e R s m args below meth c T locs cells slots) (C : own_Ctx p s m meth c Z y bytes maxL rt) (eT : T.heap = h) {vs : List Value} (F : own_A Z h b ty vs) {pc : Nat} {Ls : Array Slot} {rest : List Value} (hd : decode c.code pc = .ok (.arraylength, 1)) :
    ∀ t, Steps p.tables e below (T.setTop (mkF m (pc + 1) Ls (.int (Int32.ofNat vs.length) :: rest))) t → Steps p.tables e below (T.setTop (mkF m pc Ls (.ref b :: rest))) t := by
  obtain ⟨hx, hZ, -⟩ := C
  obtain ⟨-, cl, A, r1, r2, -⟩ := F
  intro t k
  refine X.arraylength hx (by rw [eT]; exact A.1) (State.isArrayOf_alike hZ.alike A.2.1) (g := mkF m pc Ls (.ref b :: rest)) rfl rfl hd t ?_
  have q : cl.slots.size.toInt32 = Int32.ofNat vs.length := by
    rw [r1, List.size_toArray]
  rw [q]; exact k
theorem own_lenI (X : Stand p l e R s m args below meth c T locs cells slots) (C : own_Ctx p s m meth c Z y bytes maxL rt) (eT : T.heap = h) {vs : List Int32} (F : own_AI Z h b ty vs) {pc : Nat} {Ls : Array Slot} {rest : List Value} (hd : decode c.code pc = .ok (.arraylength, 1)) :
    ∀ t, Steps p.tables e below (T.setTop (mkF m (pc + 1) Ls (.int (Int32.ofNat vs.length) :: rest))) t → Steps p.tables e below (T.setTop (mkF m pc Ls (.ref b :: rest))) t := by
  have k := own_len X C eT F (Ls := Ls) (rest := rest) hd
  rwa [List.length_map] at k
theorem own_lenJ (X : Stand p l e R s m args below meth c T locs cells slots) (C : own_Ctx p s m meth c Z y bytes maxL rt) (eT : T.heap = h) {vs : List Int64} (F : own_AJ Z h b ty vs) {pc : Nat} {Ls : Array Slot} {rest : List Value} (hd : decode c.code pc = .ok (.arraylength, 1)) :
    ∀ t, Steps p.tables e below (T.setTop (mkF m (pc + 1) Ls (.int (Int32.ofNat vs.length) :: rest))) t → Steps p.tables e below (T.setTop (mkF m pc Ls (.ref b :: rest))) t := by
  have k := own_len X C eT F (Ls := Ls) (rest := rest) hd
  rwa [List.length_map] at k
theorem own_iastore (X : Stand p l e R s m args below meth c T locs cells slots) (C : own_Ctx p s m meth c Z y bytes maxL rt) (eT : T.heap = h) {vs vs' : List Int32} (F : own_AI Z h b .int vs) {j x : Int32} (g : own_set vs j x = some vs') {pc : Nat} {Ls : Array Slot} {rest : List Value} (hd : decode c.code pc = .ok (.iastore, 1)) :
    ∃ T' h', Stand p l e R s m args below meth c T' (locs ++ [⟨b, j.toNatClampNeg⟩]) cells slots ∧ T'.heap = h' ∧ Wr h h' b j.toNatClampNeg (.int x) ∧ own_AI Z h' b .int vs' ∧
      ∀ t, Steps p.tables e below (T'.setTop (mkF m (pc + 1) Ls rest)) t → Steps p.tables e below (T.setTop (mkF m pc Ls (.int x :: .int j :: .ref b :: rest))) t := by
  obtain ⟨hx, hZ, -⟩ := C
  obtain ⟨cl, A, hin, rfl⟩ := own_A.room F g
  obtain ⟨T', h', X', e', W, st⟩ := stI X hx hZ eT A (j := j) (x := x) hin (g := mkF m pc Ls (.int x :: .int j :: .ref b :: rest)) rfl rfl hd
  refine ⟨T', h', X', e', W, ?_, st⟩
  have k := own_A.set F W rfl
  unfold own_AI
  rwa [List.map_set]
theorem own_lastore (X : Stand p l e R s m args below meth c T locs cells slots) (C : own_Ctx p s m meth c Z y bytes maxL rt) (eT : T.heap = h) {vs vs' : List Int64} (F : own_AJ Z h b .long vs) {j : Int32} {x : Int64} (g : own_set vs j x = some vs') {pc : Nat} {Ls : Array Slot} {rest : List Value} (hd : decode c.code pc = .ok (.lastore, 1)) :
    ∃ T' h', Stand p l e R s m args below meth c T' (locs ++ [⟨b, j.toNatClampNeg⟩]) cells slots ∧ T'.heap = h' ∧ Wr h h' b j.toNatClampNeg (.long x) ∧ own_AJ Z h' b .long vs' ∧
      ∀ t, Steps p.tables e below (T'.setTop (mkF m (pc + 1) Ls rest)) t → Steps p.tables e below (T.setTop (mkF m pc Ls (.long x :: .int j :: .ref b :: rest))) t := by
  obtain ⟨hx, hZ, -⟩ := C
  obtain ⟨cl, A, hin, rfl⟩ := own_A.room F g
  obtain ⟨T', h', X', e', W, st⟩ := stJ X hx hZ eT A (j := j) (x := x) hin (g := mkF m pc Ls (.long x :: .int j :: .ref b :: rest)) rfl rfl hd
  refine ⟨T', h', X', e', W, ?_, st⟩
  have k := own_A.set F W rfl
  unfold own_AJ
  rwa [List.map_set]
theorem own_bastore (X : Stand p l e R s m args below meth c T locs cells slots) (C : own_Ctx p s m meth c Z y bytes maxL rt) (eT : T.heap = h) {vs vs' : List Int32} (F : own_AI Z h b .byte vs) {j x : Int32} (g : own_set vs j (x.toInt8.toInt32) = some vs') {pc : Nat} {Ls : Array Slot} {rest : List Value} (hd : decode c.code pc = .ok (.bastore, 1)) :
    ∃ T' h', Stand p l e R s m args below meth c T' (locs ++ [⟨b, j.toNatClampNeg⟩]) cells slots ∧ T'.heap = h' ∧ Wr h h' b j.toNatClampNeg (.int (x.toInt8.toInt32)) ∧ own_AI Z h' b .byte vs' ∧
      ∀ t, Steps p.tables e below (T'.setTop (mkF m (pc + 1) Ls rest)) t → Steps p.tables e below (T.setTop (mkF m pc Ls (.int x :: .int j :: .ref b :: rest))) t := by
  obtain ⟨hx, hZ, -⟩ := C
  obtain ⟨cl, A, hin, rfl⟩ := own_A.room F g
  obtain ⟨T', h', X', e', W, st⟩ := stB X hx hZ eT A (j := j) (x := x) hin (g := mkF m pc Ls (.int x :: .int j :: .ref b :: rest)) rfl rfl hd
  refine ⟨T', h', X', e', W, ?_, st⟩
  have k := own_A.set F W (fits_nar_byte x)
  unfold own_AI
  rwa [List.map_set]
theorem own_newI (X : Stand p l e R s m args below meth c T locs cells slots) (C : own_Ctx p s m meth c Z y bytes maxL rt) (eT : T.heap = h) {aty : ArrayType} (hk : newarray.typeOf aty = ty) (hdv : defaultValue ty = .int 0) (hfz : fits ty (.int 0) = true) (w : (Cond.arrayClass ty).before a0 Z = true) {n : Int32} (hn : ¬ n < 0) {cap : Nat} (hcap : n.toNatClampNeg ≤ cap) (hb : cap * 8 ≤ 536870912) (hc : cells + 1 ≤ R.cells) (hl : slots + cap ≤ R.slots)
    {pc : Nat} {Ls : Array Slot} {rest : List Value} (hd : decode c.code pc = .ok (.newarray aty, 2)) :
    ∃ T' h' b, Stand p l e R s m args below meth c T' locs (cells + 1) (slots + cap) ∧ T'.heap = h' ∧ Ext h h' ∧ b = h.size ∧ own_AI Z h' b ty (List.replicate n.toNatClampNeg 0) ∧
      ∀ t, Steps p.tables e below (T'.setTop (mkF m (pc + 2) Ls (.ref b :: rest))) t → Steps p.tables e below (T.setTop (mkF m pc Ls (.int n :: rest))) t := by
  obtain ⟨hx, hZ, -⟩ := C
  subst hk
  obtain ⟨T', h', k, X', e', E, A, Q, st⟩ := newPE X hx hZ w eT (g := mkF m pc Ls (.int n :: rest)) rfl hd rfl hn (cap := cap) hcap hb hc hl rfl
  refine ⟨T', h', h.size, X', e', E, rfl, ⟨Q, _, A, ?_, ?_, ?_⟩, st⟩
  · show Array.replicate _ _ = _
    rw [hdv]; simp
  · rw [List.map_replicate, List.length_replicate]; omega
  · intro v hv
    rw [List.map_replicate] at hv
    rw [List.eq_of_mem_replicate hv]
    exact hfz
theorem own_newJ (X : Stand p l e R s m args below meth c T locs cells slots) (C : own_Ctx p s m meth c Z y bytes maxL rt) (eT : T.heap = h) {aty : ArrayType} (hk : newarray.typeOf aty = ty) (hdv : defaultValue ty = .long 0) (hfz : fits ty (.long 0) = true) (w : (Cond.arrayClass ty).before a0 Z = true) {n : Int32} (hn : ¬ n < 0) {cap : Nat} (hcap : n.toNatClampNeg ≤ cap) (hb : cap * 8 ≤ 536870912) (hc : cells + 1 ≤ R.cells) (hl : slots + cap ≤ R.slots)
    {pc : Nat} {Ls : Array Slot} {rest : List Value} (hd : decode c.code pc = .ok (.newarray aty, 2)) :
    ∃ T' h' b, Stand p l e R s m args below meth c T' locs (cells + 1) (slots + cap) ∧ T'.heap = h' ∧ Ext h h' ∧ b = h.size ∧ own_AJ Z h' b ty (List.replicate n.toNatClampNeg 0) ∧
      ∀ t, Steps p.tables e below (T'.setTop (mkF m (pc + 2) Ls (.ref b :: rest))) t → Steps p.tables e below (T.setTop (mkF m pc Ls (.int n :: rest))) t := by
  obtain ⟨hx, hZ, -⟩ := C
  subst hk
  obtain ⟨T', h', k, X', e', E, A, Q, st⟩ := newPE X hx hZ w eT (g := mkF m pc Ls (.int n :: rest)) rfl hd rfl hn (cap := cap) hcap hb hc hl rfl
  refine ⟨T', h', h.size, X', e', E, rfl, ⟨Q, _, A, ?_, ?_, ?_⟩, st⟩
  · show Array.replicate _ _ = _
    rw [hdv]; simp
  · rw [List.map_replicate, List.length_replicate]; omega
  · intro v hv
    rw [List.map_replicate] at hv
    rw [List.eq_of_mem_replicate hv]
    exact hfz
end Own
end Jvm.Pilot.@@N@@
namespace Jvm.Pilot.@@N@@
open Jvm Jvm.ClassFile Sem Op Lib Jvm.Free Jvm.Stand Jvm.LawKit Jvm.RoadKit Bundle Jvm.Pilot.@@N@@.Jvm.D
theorem d2_0 : decode jdk_30_method_1_code 0 = .ok (.aload_n 0, 1) := by decide +kernel
theorem d2_1 : decode jdk_30_method_1_code 1 = .ok (.invokespecial 1, 3) := by decide +kernel
theorem d2_4 : decode jdk_30_method_1_code 4 = .ok (.return_, 1) := by decide +kernel
def rmR2 : Room := { frames := 1, cells := 0, slots := 0, locals := 12 }
def E2 (Z : State) (h0 : Heap) (o0 : Nat)  (rr : Unit) (v : Option Value) (h : Heap) : Prop := v = none
def f2_0  : Option (Unit) := (some ())
set_option maxRecDepth 65536 in
set_option maxHeartbeats 40000000 in
theorem b2_0 {p : Program} {l : Launch} {e : Env} {s : State} {m : MethodId} {args : Array Value} {below : List Frame} {meth : Method} {c : Code} {Z : State} {a0 : Array Value} {h0 : Heap} {n0 : Nat} {P : Option Value → Heap → List Loc → Prop} (hw : ∀ d ∈ tables_1, d.before a0 Z = true) (C : own_Ctx p s m meth c Z (⟨"java/lang/Record", "<init>", "()V"⟩ : MethodName) jdk_30_method_1_code 1 none) (Z0 : n0 ≤ h0.size) {o0 : Nat}  (rr : Unit) (hP : ∀ v h L, Fr n0 L → Keep h0 h [] → E2 Z h0 o0 rr v h → P v h L)
    {T : State} {locs : List Loc} {h : Heap} (X : Stand p l e rmR2 s m args below meth c T locs 0 0) (e0 : T.heap = h) (N : Fr n0 locs) (K : Keep h0 h []) (hv : f2_0 = some rr) :
    own_WP p e below (own_Q s P rmR2.cells rmR2.slots) T (mkF m 0 #[.val (.ref o0)] []) := by
  obtain ⟨hx, hZ, hby, hml, hown, hnm, hret, hlk⟩ := id C
  replace hown : s.vm.findClass "java/lang/Record" = some m.cls := hown
  unfold f2_0 at hv
  show own_WP p e below _ T (mkF m 0 #[.val (.ref o0)] [])
  refine own_go (fun _ => XS.aloadN X.here hx rfl (hb hby d2_0) rfl rfl) ?_
  show own_WP p e below _ T (mkF m 1 #[.val (.ref o0)] [(.ref o0)])
  obtain ⟨T1, X1, e1, st1⟩ := initO X hx hZ hown (hw _ (List.mem_of_getElem? (i := 13) rfl)) (hw _ (List.mem_of_getElem? (i := 14) rfl)) (hw _ (List.mem_of_getElem? (i := 15) rfl)) e0 (g := (mkF m 1 #[.val (.ref o0)] [(.ref o0)])) rfl (by rw [hml]; rfl) rfl (hb hby d2_1) (by decide) (W := 0) (by show 2 * 0 + _ ≤ _; exact Nat.le_of_eq rfl) (by decide)
  refine own_go st1 ?_
  show own_WP p e below _ T1 (mkF m 4 #[.val (.ref o0)] [])
  obtain rfl := Option.some.inj hv
  exact own_retV X1 C (hb hby d2_4) (by rw [e1]; exact hP _ _ _ N K rfl) (by decide) (by decide)
theorem ef2 (m : MethodId) (o0 : Nat) : entryFrame m #[(.ref o0)] 1 = (mkF m 0 #[.val (.ref o0)] []) := by first | (simp [entryFrame, mkF, argsToLocals, Value.category]; done) | rfl
theorem pd2 : parseMethodDescriptor "()V" = some ⟨[], none⟩ := by decide +kernel
theorem pn2 : plainFor (⟨"java/lang/Record", "<init>", "()V"⟩ : MethodName) = true := plainFor_of_name (by first | (simp [plainName, overriddenIn]; done) | decide +kernel)
theorem rm2 (l : Launch) (Z : State) (a0 : Array Value) (hw : ∀ d ∈ tables_1, d.before a0 Z = true) (n0 : Nat) (h0 : Heap) (Z0 : n0 ≤ h0.size) {o0 : Nat}       (rr : Unit) (hf : f2_0 = some rr) :
    own_Met l Z (⟨"java/lang/Record", "<init>", "()V"⟩ : MethodName) jdk_30_method_1_code 1 none [] rmR2 #[(.ref o0)] h0 (fun v h L => Fr n0 L ∧ Keep h0 h [] ∧ E2 Z h0 o0 rr v h) := by
  refine own_body pn2 ?_
  intro p e s m below meth c s₁ C X e0
  exact own_cast (ef2 m o0) (b2_0 hw C Z0 rr (fun v h L a b c => ⟨a, b, c⟩) X e0 (Fr.nil n0) (Keep.refl h0 [])  hf)
theorem d1_0 : decode prog_106_method_2_code 0 = .ok (.aload_n 0, 1) := by decide +kernel
theorem d1_1 : decode prog_106_method_2_code 1 = .ok (.invokespecial 3, 3) := by decide +kernel
theorem d1_4 : decode prog_106_method_2_code 4 = .ok (.aload_n 0, 1) := by decide +kernel
theorem d1_5 : decode prog_106_method_2_code 5 = .ok (.iload_n 1, 1) := by decide +kernel
theorem d1_6 : decode prog_106_method_2_code 6 = .ok (.putfield 9, 3) := by decide +kernel
theorem d1_9 : decode prog_106_method_2_code 9 = .ok (.aload_n 0, 1) := by decide +kernel
theorem d1_10 : decode prog_106_method_2_code 10 = .ok (.iload_n 2, 1) := by decide +kernel
theorem d1_11 : decode prog_106_method_2_code 11 = .ok (.putfield 13, 3) := by decide +kernel
theorem d1_14 : decode prog_106_method_2_code 14 = .ok (.aload_n 0, 1) := by decide +kernel
theorem d1_15 : decode prog_106_method_2_code 15 = .ok (.iload_n 3, 1) := by decide +kernel
theorem d1_16 : decode prog_106_method_2_code 16 = .ok (.putfield 16, 3) := by decide +kernel
theorem d1_19 : decode prog_106_method_2_code 19 = .ok (.aload_n 0, 1) := by decide +kernel
theorem d1_20 : decode prog_106_method_2_code 20 = .ok (.aload 4, 2) := by decide +kernel
theorem d1_22 : decode prog_106_method_2_code 22 = .ok (.putfield 19, 3) := by decide +kernel
theorem d1_25 : decode prog_106_method_2_code 25 = .ok (.aload_n 0, 1) := by decide +kernel
theorem d1_26 : decode prog_106_method_2_code 26 = .ok (.iload 5, 2) := by decide +kernel
theorem d1_28 : decode prog_106_method_2_code 28 = .ok (.putfield 23, 3) := by decide +kernel
theorem d1_31 : decode prog_106_method_2_code 31 = .ok (.return_, 1) := by decide +kernel
def rmR1 : Room := { frames := 2, cells := 0, slots := 0, locals := 24 }
def E1 (Z : State) (h0 : Heap) (o0 : Nat) (o4 : Nat)  (rr : Int32 × Int32 × Int32 × Int32) (v : Option Value) (h : Heap) : Prop := v = none ∧ Exa Z h o0 "com/example/objwire/objwire/rpc/Pdu" ∧ Fld Z h o0 "com/example/objwire/objwire/rpc/Pdu" "type" "I" (.int (rr.1)) ∧ Fld Z h o0 "com/example/objwire/objwire/rpc/Pdu" "flags" "I" (.int (rr.2.1)) ∧ Fld Z h o0 "com/example/objwire/objwire/rpc/Pdu" "callId" "I" (.int (rr.2.2.1)) ∧ Fld Z h o0 "com/example/objwire/objwire/rpc/Pdu" "body" "[B" (.ref o4) ∧ Fld Z h o0 "com/example/objwire/objwire/rpc/Pdu" "authLength" "I" (.int (rr.2.2.2))
def f1_0 (x1 : Int32) (x2 : Int32) (x3 : Int32) (x5 : Int32) : Option (Int32 × Int32 × Int32 × Int32) := (f2_0.bind fun rr1 => (some (x1, x2, x3, x5)))
set_option maxRecDepth 65536 in
set_option maxHeartbeats 40000000 in
theorem b1_0 {p : Program} {l : Launch} {e : Env} {s : State} {m : MethodId} {args : Array Value} {below : List Frame} {meth : Method} {c : Code} {Z : State} {a0 : Array Value} {h0 : Heap} {n0 : Nat} {P : Option Value → Heap → List Loc → Prop} (hw : ∀ d ∈ tables_1, d.before a0 Z = true) (C : own_Ctx p s m meth c Z (⟨"com/example/objwire/objwire/rpc/Pdu", "<init>", "(III[BI)V"⟩ : MethodName) prog_106_method_2_code 6 none) (Z0 : n0 ≤ h0.size) {o0 : Nat} {o4 : Nat}  (rr : Int32 × Int32 × Int32 × Int32) (hP : ∀ v h L, Fr n0 L → Keep h0 h [o0] → E1 Z h0 o0 o4 rr v h → P v h L)
    {T : State} {locs : List Loc} {h : Heap} {c_o0_type : Int32} {c_o0_flags : Int32} {c_o0_callId : Int32} {c_o0_authLength : Int32} (X : Stand p l e rmR1 s m args below meth c T locs 0 0) (e0 : T.heap = h) (N : Fr n0 locs) (K : Keep h0 h [o0]) (g_o0 : n0 ≤ o0) (E_o0 : Exa Z h o0 "com/example/objwire/objwire/rpc/Pdu") (F_o0_type : Fld Z h o0 "com/example/objwire/objwire/rpc/Pdu" "type" "I" (.int c_o0_type)) (F_o0_flags : Fld Z h o0 "com/example/objwire/objwire/rpc/Pdu" "flags" "I" (.int c_o0_flags)) (F_o0_callId : Fld Z h o0 "com/example/objwire/objwire/rpc/Pdu" "callId" "I" (.int c_o0_callId)) (F_o0_body : Fld Z h o0 "com/example/objwire/objwire/rpc/Pdu" "body" "[B" .null) (F_o0_authLength : Fld Z h o0 "com/example/objwire/objwire/rpc/Pdu" "authLength" "I" (.int c_o0_authLength)) (x1 : Int32) (x2 : Int32) (x3 : Int32) (x5 : Int32) (hv : f1_0 x1 x2 x3 x5 = some rr) :
    own_WP p e below (own_Q s P rmR1.cells rmR1.slots) T (mkF m 0 #[.val (.ref o0), .val (.int x1), .val (.int x2), .val (.int x3), .val (.ref o4), .val (.int x5)] []) := by
  obtain ⟨hx, hZ, hby, hml, hown, hnm, hret, hlk⟩ := id C
  replace hown : s.vm.findClass "com/example/objwire/objwire/rpc/Pdu" = some m.cls := hown
  unfold f1_0 at hv
  show own_WP p e below _ T (mkF m 0 #[.val (.ref o0), .val (.int x1), .val (.int x2), .val (.int x3), .val (.ref o4), .val (.int x5)] [])
  refine own_go (fun _ => XS.aloadN X.here hx rfl (hb hby d1_0) rfl rfl) ?_
  show own_WP p e below _ T (mkF m 1 #[.val (.ref o0), .val (.int x1), .val (.int x2), .val (.int x3), .val (.ref o4), .val (.int x5)] [(.ref o0)])
  obtain ⟨rr1, hf1, hv⟩ := own_bind hv
  obtain ⟨T1, v1, L1, X1, ⟨N1, K1, Q1⟩, st1⟩ := own_callN X C (a := o0) (argsL := []) (rm2 l Z a0 hw n0 h (by have q := K.1; omega) (o0 := o0) rr1 hf1) rfl (hw _ (List.mem_of_getElem? (i := 8) rfl)) (hw _ (List.mem_of_getElem? (i := 9) rfl)) (hw _ (List.mem_of_getElem? (i := 11) rfl)) (hw _ (List.mem_of_getElem? (i := 12) rfl)) (by decide) e0 (W := 0) (pc := 1) (Ls := #[.val (.ref o0), .val (.int x1), .val (.int x2), .val (.int x3), .val (.ref o4), .val (.int x5)]) rfl (lenOf pd2 rfl) (rest := []) (stk := [(.ref o0)]) rfl (Nat.le_of_ble_eq_true rfl) (hb hby d1_1) (by decide) (by decide) (by decide) (by decide)
  replace N := Fr.app N N1
  replace E_o0 := E_o0.keep K1
  replace F_o0_type := F_o0_type.keep K1 nin0
  replace F_o0_flags := F_o0_flags.keep K1 nin0
  replace F_o0_callId := F_o0_callId.keep K1 nin0
  replace F_o0_body := F_o0_body.keep K1 nin0
  replace F_o0_authLength := F_o0_authLength.keep K1 nin0
  obtain ⟨rfl⟩ := Q1
  replace K := K.trans K1 all0
  refine own_go st1 ?_
  show own_WP p e below _ T1 (mkF m 4 #[.val (.ref o0), .val (.int x1), .val (.int x2), .val (.int x3), .val (.ref o4), .val (.int x5)] [])
  refine own_go (fun _ => XS.aloadN X1.here hx rfl (hb hby d1_4) rfl rfl) ?_
  show own_WP p e below _ T1 (mkF m 5 #[.val (.ref o0), .val (.int x1), .val (.int x2), .val (.int x3), .val (.ref o4), .val (.int x5)] [(.ref o0)])
  refine own_go (fun _ => XS.iloadN X1.here hx rfl (hb hby d1_5) rfl) ?_
  show own_WP p e below _ T1 (mkF m 6 #[.val (.ref o0), .val (.int x1), .val (.int x2), .val (.int x3), .val (.ref o4), .val (.int x5)] [(.int x1), (.ref o0)])
  obtain ⟨T2, h2, X2, e2, W2, st2⟩ := putF X1 hx hZ hown (host := "") (Or.inl (hw _ (List.mem_of_getElem? (i := 16) rfl))) Via.refl (rfl : T1.heap = T1.heap) F_o0_type E_o0 (Or.inr ⟨(hw _ (List.mem_of_getElem? (i := 17) rfl)), rfl, hnm⟩) (hw _ (List.mem_of_getElem? (i := 3) rfl)) (ty := .int) (by decide) rfl rfl (g := (mkF m 6 #[.val (.ref o0), .val (.int x1), .val (.int x2), .val (.int x3), .val (.ref o4), .val (.int x5)] [(.int x1), (.ref o0)])) rfl rfl (hb hby d1_6)
  refine own_go st2 ?_
  replace E_o0 := E_o0.wr W2
  replace F_o0_type := F_o0_type.same W2
  replace F_o0_flags := F_o0_flags.other W2 (Or.inr (slot_ne (Or.inr (hw _ (List.mem_of_getElem? (i := 19) rfl))) (Or.inr (hw _ (List.mem_of_getElem? (i := 17) rfl))) (by decide) (t := .int) (t' := .int) (by decide) (by decide)))
  replace F_o0_callId := F_o0_callId.other W2 (Or.inr (slot_ne (Or.inr (hw _ (List.mem_of_getElem? (i := 21) rfl))) (Or.inr (hw _ (List.mem_of_getElem? (i := 17) rfl))) (by decide) (t := .int) (t' := .int) (by decide) (by decide)))
  replace F_o0_body := F_o0_body.other W2 (Or.inr (slot_ne (Or.inr (hw _ (List.mem_of_getElem? (i := 23) rfl))) (Or.inr (hw _ (List.mem_of_getElem? (i := 17) rfl))) (by decide) (t := (.array .byte)) (t' := .int) (by decide) (by decide)))
  replace F_o0_authLength := F_o0_authLength.other W2 (Or.inr (slot_ne (Or.inr (hw _ (List.mem_of_getElem? (i := 25) rfl))) (Or.inr (hw _ (List.mem_of_getElem? (i := 17) rfl))) (by decide) (t := .int) (t' := .int) (by decide) (by decide)))
  replace K := K.wr W2 (Or.inl (List.mem_of_getElem? (i := 0) rfl))
  replace N := Fr.snoc X2 N (by omega)
  show own_WP p e below _ T2 (mkF m 9 #[.val (.ref o0), .val (.int x1), .val (.int x2), .val (.int x3), .val (.ref o4), .val (.int x5)] [])
  refine own_go (fun _ => XS.aloadN X2.here hx rfl (hb hby d1_9) rfl rfl) ?_
  show own_WP p e below _ T2 (mkF m 10 #[.val (.ref o0), .val (.int x1), .val (.int x2), .val (.int x3), .val (.ref o4), .val (.int x5)] [(.ref o0)])
  refine own_go (fun _ => XS.iloadN X2.here hx rfl (hb hby d1_10) rfl) ?_
  show own_WP p e below _ T2 (mkF m 11 #[.val (.ref o0), .val (.int x1), .val (.int x2), .val (.int x3), .val (.ref o4), .val (.int x5)] [(.int x2), (.ref o0)])
  obtain ⟨T3, h3, X3, e3, W3, st3⟩ := putF X2 hx hZ hown (host := "") (Or.inl (hw _ (List.mem_of_getElem? (i := 18) rfl))) Via.refl e2 F_o0_flags E_o0 (Or.inr ⟨(hw _ (List.mem_of_getElem? (i := 19) rfl)), rfl, hnm⟩) (hw _ (List.mem_of_getElem? (i := 3) rfl)) (ty := .int) (by decide) rfl rfl (g := (mkF m 11 #[.val (.ref o0), .val (.int x1), .val (.int x2), .val (.int x3), .val (.ref o4), .val (.int x5)] [(.int x2), (.ref o0)])) rfl rfl (hb hby d1_11)
  refine own_go st3 ?_
  replace E_o0 := E_o0.wr W3
  replace F_o0_type := F_o0_type.other W3 (Or.inr (slot_ne (Or.inr (hw _ (List.mem_of_getElem? (i := 17) rfl))) (Or.inr (hw _ (List.mem_of_getElem? (i := 19) rfl))) (by decide) (t := .int) (t' := .int) (by decide) (by decide)))
  replace F_o0_flags := F_o0_flags.same W3
  replace F_o0_callId := F_o0_callId.other W3 (Or.inr (slot_ne (Or.inr (hw _ (List.mem_of_getElem? (i := 21) rfl))) (Or.inr (hw _ (List.mem_of_getElem? (i := 19) rfl))) (by decide) (t := .int) (t' := .int) (by decide) (by decide)))
  replace F_o0_body := F_o0_body.other W3 (Or.inr (slot_ne (Or.inr (hw _ (List.mem_of_getElem? (i := 23) rfl))) (Or.inr (hw _ (List.mem_of_getElem? (i := 19) rfl))) (by decide) (t := (.array .byte)) (t' := .int) (by decide) (by decide)))
  replace F_o0_authLength := F_o0_authLength.other W3 (Or.inr (slot_ne (Or.inr (hw _ (List.mem_of_getElem? (i := 25) rfl))) (Or.inr (hw _ (List.mem_of_getElem? (i := 19) rfl))) (by decide) (t := .int) (t' := .int) (by decide) (by decide)))
  replace K := K.wr W3 (Or.inl (List.mem_of_getElem? (i := 0) rfl))
  replace N := Fr.snoc X3 N (by omega)
  show own_WP p e below _ T3 (mkF m 14 #[.val (.ref o0), .val (.int x1), .val (.int x2), .val (.int x3), .val (.ref o4), .val (.int x5)] [])
  refine own_go (fun _ => XS.aloadN X3.here hx rfl (hb hby d1_14) rfl rfl) ?_
  show own_WP p e below _ T3 (mkF m 15 #[.val (.ref o0), .val (.int x1), .val (.int x2), .val (.int x3), .val (.ref o4), .val (.int x5)] [(.ref o0)])
  refine own_go (fun _ => XS.iloadN X3.here hx rfl (hb hby d1_15) rfl) ?_
  show own_WP p e below _ T3 (mkF m 16 #[.val (.ref o0), .val (.int x1), .val (.int x2), .val (.int x3), .val (.ref o4), .val (.int x5)] [(.int x3), (.ref o0)])
  obtain ⟨T4, h4, X4, e4, W4, st4⟩ := putF X3 hx hZ hown (host := "") (Or.inl (hw _ (List.mem_of_getElem? (i := 20) rfl))) Via.refl e3 F_o0_callId E_o0 (Or.inr ⟨(hw _ (List.mem_of_getElem? (i := 21) rfl)), rfl, hnm⟩) (hw _ (List.mem_of_getElem? (i := 3) rfl)) (ty := .int) (by decide) rfl rfl (g := (mkF m 16 #[.val (.ref o0), .val (.int x1), .val (.int x2), .val (.int x3), .val (.ref o4), .val (.int x5)] [(.int x3), (.ref o0)])) rfl rfl (hb hby d1_16)
  refine own_go st4 ?_
  replace E_o0 := E_o0.wr W4
  replace F_o0_type := F_o0_type.other W4 (Or.inr (slot_ne (Or.inr (hw _ (List.mem_of_getElem? (i := 17) rfl))) (Or.inr (hw _ (List.mem_of_getElem? (i := 21) rfl))) (by decide) (t := .int) (t' := .int) (by decide) (by decide)))
  replace F_o0_flags := F_o0_flags.other W4 (Or.inr (slot_ne (Or.inr (hw _ (List.mem_of_getElem? (i := 19) rfl))) (Or.inr (hw _ (List.mem_of_getElem? (i := 21) rfl))) (by decide) (t := .int) (t' := .int) (by decide) (by decide)))
  replace F_o0_callId := F_o0_callId.same W4
  replace F_o0_body := F_o0_body.other W4 (Or.inr (slot_ne (Or.inr (hw _ (List.mem_of_getElem? (i := 23) rfl))) (Or.inr (hw _ (List.mem_of_getElem? (i := 21) rfl))) (by decide) (t := (.array .byte)) (t' := .int) (by decide) (by decide)))
  replace F_o0_authLength := F_o0_authLength.other W4 (Or.inr (slot_ne (Or.inr (hw _ (List.mem_of_getElem? (i := 25) rfl))) (Or.inr (hw _ (List.mem_of_getElem? (i := 21) rfl))) (by decide) (t := .int) (t' := .int) (by decide) (by decide)))
  replace K := K.wr W4 (Or.inl (List.mem_of_getElem? (i := 0) rfl))
  replace N := Fr.snoc X4 N (by omega)
  show own_WP p e below _ T4 (mkF m 19 #[.val (.ref o0), .val (.int x1), .val (.int x2), .val (.int x3), .val (.ref o4), .val (.int x5)] [])
  refine own_go (fun _ => XS.aloadN X4.here hx rfl (hb hby d1_19) rfl rfl) ?_
  show own_WP p e below _ T4 (mkF m 20 #[.val (.ref o0), .val (.int x1), .val (.int x2), .val (.int x3), .val (.ref o4), .val (.int x5)] [(.ref o0)])
  refine own_go (fun _ => XS.aload X4.here hx rfl (hb hby d1_20) rfl rfl) ?_
  show own_WP p e below _ T4 (mkF m 22 #[.val (.ref o0), .val (.int x1), .val (.int x2), .val (.int x3), .val (.ref o4), .val (.int x5)] [(.ref o4), (.ref o0)])
  obtain ⟨T5, h5, X5, e5, W5, st5⟩ := putF X4 hx hZ hown (host := "") (Or.inl (hw _ (List.mem_of_getElem? (i := 22) rfl))) Via.refl e4 F_o0_body E_o0 (Or.inr ⟨(hw _ (List.mem_of_getElem? (i := 23) rfl)), rfl, hnm⟩) (hw _ (List.mem_of_getElem? (i := 3) rfl)) (ty := (.array .byte)) (by decide) rfl rfl (g := (mkF m 22 #[.val (.ref o0), .val (.int x1), .val (.int x2), .val (.int x3), .val (.ref o4), .val (.int x5)] [(.ref o4), (.ref o0)])) rfl rfl (hb hby d1_22)
  refine own_go st5 ?_
  replace E_o0 := E_o0.wr W5
  replace F_o0_type := F_o0_type.other W5 (Or.inr (slot_ne (Or.inr (hw _ (List.mem_of_getElem? (i := 17) rfl))) (Or.inr (hw _ (List.mem_of_getElem? (i := 23) rfl))) (by decide) (t := .int) (t' := (.array .byte)) (by decide) (by decide)))
  replace F_o0_flags := F_o0_flags.other W5 (Or.inr (slot_ne (Or.inr (hw _ (List.mem_of_getElem? (i := 19) rfl))) (Or.inr (hw _ (List.mem_of_getElem? (i := 23) rfl))) (by decide) (t := .int) (t' := (.array .byte)) (by decide) (by decide)))
  replace F_o0_callId := F_o0_callId.other W5 (Or.inr (slot_ne (Or.inr (hw _ (List.mem_of_getElem? (i := 21) rfl))) (Or.inr (hw _ (List.mem_of_getElem? (i := 23) rfl))) (by decide) (t := .int) (t' := (.array .byte)) (by decide) (by decide)))
  replace F_o0_body := F_o0_body.same W5
  replace F_o0_authLength := F_o0_authLength.other W5 (Or.inr (slot_ne (Or.inr (hw _ (List.mem_of_getElem? (i := 25) rfl))) (Or.inr (hw _ (List.mem_of_getElem? (i := 23) rfl))) (by decide) (t := .int) (t' := (.array .byte)) (by decide) (by decide)))
  replace K := K.wr W5 (Or.inl (List.mem_of_getElem? (i := 0) rfl))
  replace N := Fr.snoc X5 N (by omega)
  show own_WP p e below _ T5 (mkF m 25 #[.val (.ref o0), .val (.int x1), .val (.int x2), .val (.int x3), .val (.ref o4), .val (.int x5)] [])
  refine own_go (fun _ => XS.aloadN X5.here hx rfl (hb hby d1_25) rfl rfl) ?_
  show own_WP p e below _ T5 (mkF m 26 #[.val (.ref o0), .val (.int x1), .val (.int x2), .val (.int x3), .val (.ref o4), .val (.int x5)] [(.ref o0)])
  refine own_go (fun _ => XS.iload X5.here hx rfl (hb hby d1_26) rfl) ?_
  show own_WP p e below _ T5 (mkF m 28 #[.val (.ref o0), .val (.int x1), .val (.int x2), .val (.int x3), .val (.ref o4), .val (.int x5)] [(.int x5), (.ref o0)])
  obtain ⟨T6, h6, X6, e6, W6, st6⟩ := putF X5 hx hZ hown (host := "") (Or.inl (hw _ (List.mem_of_getElem? (i := 24) rfl))) Via.refl e5 F_o0_authLength E_o0 (Or.inr ⟨(hw _ (List.mem_of_getElem? (i := 25) rfl)), rfl, hnm⟩) (hw _ (List.mem_of_getElem? (i := 3) rfl)) (ty := .int) (by decide) rfl rfl (g := (mkF m 28 #[.val (.ref o0), .val (.int x1), .val (.int x2), .val (.int x3), .val (.ref o4), .val (.int x5)] [(.int x5), (.ref o0)])) rfl rfl (hb hby d1_28)
  refine own_go st6 ?_
  replace E_o0 := E_o0.wr W6
  replace F_o0_type := F_o0_type.other W6 (Or.inr (slot_ne (Or.inr (hw _ (List.mem_of_getElem? (i := 17) rfl))) (Or.inr (hw _ (List.mem_of_getElem? (i := 25) rfl))) (by decide) (t := .int) (t' := .int) (by decide) (by decide)))
  replace F_o0_flags := F_o0_flags.other W6 (Or.inr (slot_ne (Or.inr (hw _ (List.mem_of_getElem? (i := 19) rfl))) (Or.inr (hw _ (List.mem_of_getElem? (i := 25) rfl))) (by decide) (t := .int) (t' := .int) (by decide) (by decide)))
  replace F_o0_callId := F_o0_callId.other W6 (Or.inr (slot_ne (Or.inr (hw _ (List.mem_of_getElem? (i := 21) rfl))) (Or.inr (hw _ (List.mem_of_getElem? (i := 25) rfl))) (by decide) (t := .int) (t' := .int) (by decide) (by decide)))
  replace F_o0_body := F_o0_body.other W6 (Or.inr (slot_ne (Or.inr (hw _ (List.mem_of_getElem? (i := 23) rfl))) (Or.inr (hw _ (List.mem_of_getElem? (i := 25) rfl))) (by decide) (t := (.array .byte)) (t' := .int) (by decide) (by decide)))
  replace F_o0_authLength := F_o0_authLength.same W6
  replace K := K.wr W6 (Or.inl (List.mem_of_getElem? (i := 0) rfl))
  replace N := Fr.snoc X6 N (by omega)
  show own_WP p e below _ T6 (mkF m 31 #[.val (.ref o0), .val (.int x1), .val (.int x2), .val (.int x3), .val (.ref o4), .val (.int x5)] [])
  obtain rfl := Option.some.inj hv
  exact own_retV X6 C (hb hby d1_31) (by rw [e6]; exact hP _ _ _ N K ⟨rfl, E_o0, F_o0_type, F_o0_flags, F_o0_callId, F_o0_body, F_o0_authLength⟩) (by decide) (by decide)
theorem ef1 (m : MethodId) (o0 : Nat) (x1 : Int32) (x2 : Int32) (x3 : Int32) (o4 : Nat) (x5 : Int32) : entryFrame m #[(.ref o0), (.int x1), (.int x2), (.int x3), (.ref o4), (.int x5)] 6 = (mkF m 0 #[.val (.ref o0), .val (.int x1), .val (.int x2), .val (.int x3), .val (.ref o4), .val (.int x5)] []) := by first | (simp [entryFrame, mkF, argsToLocals, Value.category]; done) | rfl
theorem pd1 : parseMethodDescriptor "(III[BI)V" = some ⟨[.int, .int, .int, (.array .byte), .int], none⟩ := by decide +kernel
theorem pn1 : plainFor (⟨"com/example/objwire/objwire/rpc/Pdu", "<init>", "(III[BI)V"⟩ : MethodName) = true := plainFor_of_name (by first | (simp [plainName, overriddenIn]; done) | decide +kernel)
theorem rm1 (l : Launch) (Z : State) (a0 : Array Value) (hw : ∀ d ∈ tables_1, d.before a0 Z = true) (n0 : Nat) (h0 : Heap) (Z0 : n0 ≤ h0.size) {o0 : Nat} {o4 : Nat} {c_o0_type : Int32} {c_o0_flags : Int32} {c_o0_callId : Int32} {c_o0_authLength : Int32}  (g_o0 : n0 ≤ o0) (E_o0 : Exa Z h0 o0 "com/example/objwire/objwire/rpc/Pdu") (F_o0_type : Fld Z h0 o0 "com/example/objwire/objwire/rpc/Pdu" "type" "I" (.int c_o0_type)) (F_o0_flags : Fld Z h0 o0 "com/example/objwire/objwire/rpc/Pdu" "flags" "I" (.int c_o0_flags)) (F_o0_callId : Fld Z h0 o0 "com/example/objwire/objwire/rpc/Pdu" "callId" "I" (.int c_o0_callId)) (F_o0_body : Fld Z h0 o0 "com/example/objwire/objwire/rpc/Pdu" "body" "[B" .null) (F_o0_authLength : Fld Z h0 o0 "com/example/objwire/objwire/rpc/Pdu" "authLength" "I" (.int c_o0_authLength)) (x1 : Int32) (x2 : Int32) (x3 : Int32) (x5 : Int32)  (rr : Int32 × Int32 × Int32 × Int32) (hf : f1_0 x1 x2 x3 x5 = some rr) :
    own_Met l Z (⟨"com/example/objwire/objwire/rpc/Pdu", "<init>", "(III[BI)V"⟩ : MethodName) prog_106_method_2_code 6 none [] rmR1 #[(.ref o0), (.int x1), (.int x2), (.int x3), (.ref o4), (.int x5)] h0 (fun v h L => Fr n0 L ∧ Keep h0 h [o0] ∧ E1 Z h0 o0 o4 rr v h) := by
  refine own_body pn1 ?_
  intro p e s m below meth c s₁ C X e0
  exact own_cast (ef1 m o0 x1 x2 x3 o4 x5) (b1_0 hw C Z0 rr (fun v h L a b c => ⟨a, b, c⟩) X e0 (Fr.nil n0) (Keep.refl h0 [o0]) g_o0 E_o0 F_o0_type F_o0_flags F_o0_callId F_o0_body F_o0_authLength x1 x2 x3 x5 hf)
theorem d4_0 : decode prog_106_method_12_code 0 = .ok (.aload_n 0, 1) := by decide +kernel
theorem d4_1 : decode prog_106_method_12_code 1 = .ok (.getfield 9, 3) := by decide +kernel
theorem d4_4 : decode prog_106_method_12_code 4 = .ok (.tableswitch 66 0 3 #[32, 66, 54, 60], 32) := by decide +kernel
theorem d4_36 : decode prog_106_method_12_code 36 = .ok (.aload_n 0, 1) := by decide +kernel
theorem d4_37 : decode prog_106_method_12_code 37 = .ok (.getfield 13, 3) := by decide +kernel
theorem d4_40 : decode prog_106_method_12_code 40 = .ok (.sipush 128, 3) := by decide +kernel
theorem d4_43 : decode prog_106_method_12_code 43 = .ok (.iand, 1) := by decide +kernel
theorem d4_44 : decode prog_106_method_12_code 44 = .ok (.ifCond .eq 8, 3) := by decide +kernel
theorem d4_47 : decode prog_106_method_12_code 47 = .ok (.bipush 24, 2) := by decide +kernel
theorem d4_49 : decode prog_106_method_12_code 49 = .ok (.goto 5, 3) := by decide +kernel
theorem d4_52 : decode prog_106_method_12_code 52 = .ok (.bipush 8, 2) := by decide +kernel
theorem d4_54 : decode prog_106_method_12_code 54 = .ok (.istore_n 1, 1) := by decide +kernel
theorem d4_55 : decode prog_106_method_12_code 55 = .ok (.goto 32, 3) := by decide +kernel
theorem d4_58 : decode prog_106_method_12_code 58 = .ok (.bipush 8, 2) := by decide +kernel
theorem d4_60 : decode prog_106_method_12_code 60 = .ok (.istore_n 1, 1) := by decide +kernel
theorem d4_61 : decode prog_106_method_12_code 61 = .ok (.goto 26, 3) := by decide +kernel
theorem d4_64 : decode prog_106_method_12_code 64 = .ok (.bipush 16, 2) := by decide +kernel
theorem d4_66 : decode prog_106_method_12_code 66 = .ok (.istore_n 1, 1) := by decide +kernel
theorem d4_67 : decode prog_106_method_12_code 67 = .ok (.goto 20, 3) := by decide +kernel
theorem d4_87 : decode prog_106_method_12_code 87 = .ok (.bipush 16, 2) := by decide +kernel
theorem d4_89 : decode prog_106_method_12_code 89 = .ok (.iload_n 1, 1) := by decide +kernel
theorem d4_90 : decode prog_106_method_12_code 90 = .ok (.iadd, 1) := by decide +kernel
theorem d4_91 : decode prog_106_method_12_code 91 = .ok (.ireturn, 1) := by decide +kernel
def rmR4 : Room := { frames := 0, cells := 0, slots := 0, locals := 0 }
def E4 (Z : State) (h0 : Heap) (o0 : Nat) (s_type : Int32) (s_flags : Int32) (s_callId : Int32) (s_authLength : Int32) (rr : Int32) (v : Option Value) (h : Heap) : Prop := v = some (.int rr)
def f4_87 (x1 : Int32) : Option (Int32) := (some ((16 : Int32) + x1))
set_option maxRecDepth 65536 in
set_option maxHeartbeats 40000000 in
theorem b4_87 {p : Program} {l : Launch} {e : Env} {s : State} {m : MethodId} {args : Array Value} {below : List Frame} {meth : Method} {c : Code} {Z : State} {a0 : Array Value} {h0 : Heap} {n0 : Nat} {P : Option Value → Heap → List Loc → Prop} (hw : ∀ d ∈ tables_1, d.before a0 Z = true) (C : own_Ctx p s m meth c Z (⟨"com/example/objwire/objwire/rpc/Pdu", "sealedFrom", "()I"⟩ : MethodName) prog_106_method_12_code 2 (some .int)) (Z0 : n0 ≤ h0.size) {o0 : Nat} {s_type : Int32} {s_flags : Int32} {s_callId : Int32} {s_authLength : Int32} (rr : Int32) (hP : ∀ v h L, Fr n0 L → Keep h0 h [] → E4 Z h0 o0 s_type s_flags s_callId s_authLength rr v h → P v h L)
    {T : State} {locs : List Loc} {h : Heap} (X : Stand p l e rmR4 s m args below meth c T locs 0 0) (e0 : T.heap = h) (N : Fr n0 locs) (K : Keep h0 h []) (g_o0 : n0 ≤ o0) (E_o0 : Exa Z h o0 "com/example/objwire/objwire/rpc/Pdu") (F_o0_type : Fld Z h o0 "com/example/objwire/objwire/rpc/Pdu" "type" "I" (.int s_type)) (F_o0_flags : Fld Z h o0 "com/example/objwire/objwire/rpc/Pdu" "flags" "I" (.int s_flags)) (F_o0_callId : Fld Z h o0 "com/example/objwire/objwire/rpc/Pdu" "callId" "I" (.int s_callId)) (F_o0_body : Fld Z h o0 "com/example/objwire/objwire/rpc/Pdu" "body" "[B" (.ref bd)) (F_o0_authLength : Fld Z h o0 "com/example/objwire/objwire/rpc/Pdu" "authLength" "I" (.int s_authLength)) (s0 : Slot) (hs0 : One s0) (x1 : Int32) (hv : f4_87 x1 = some rr) :
    own_WP p e below (own_Q s P rmR4.cells rmR4.slots) T (mkF m 87 #[s0, .val (.int x1)] []) := by
  obtain ⟨hx, hZ, hby, hml, hown, hnm, hret, hlk⟩ := id C
  replace hown : s.vm.findClass "com/example/objwire/objwire/rpc/Pdu" = some m.cls := hown
  unfold f4_87 at hv
  show own_WP p e below _ T (mkF m 87 #[s0, .val (.int x1)] [])
  refine own_go (fun _ => XS.bipush X.here hx rfl (hb hby d4_87)) ?_
  show own_WP p e below _ T (mkF m 89 #[s0, .val (.int x1)] [(.int (16 : Int32))])
  refine own_go (fun _ => XS.iloadN X.here hx rfl (hb hby d4_89) rfl) ?_
  show own_WP p e below _ T (mkF m 90 #[s0, .val (.int x1)] [(.int x1), (.int (16 : Int32))])
  refine own_go (fun _ => XS.iadd X.here hx rfl (hb hby d4_90) rfl) ?_
  show own_WP p e below _ T (mkF m 91 #[s0, .val (.int x1)] [(.int ((16 : Int32) + x1))])
  obtain rfl := Option.some.inj hv
  exact own_retI X C (hb hby d4_91) (by rw [e0]; exact hP _ _ _ N K rfl) (by decide) (by decide)
def f4_54 (t0 : Int32) : Option (Int32) := (f4_87 t0)
set_option maxRecDepth 65536 in
set_option maxHeartbeats 40000000 in
theorem b4_54 {p : Program} {l : Launch} {e : Env} {s : State} {m : MethodId} {args : Array Value} {below : List Frame} {meth : Method} {c : Code} {Z : State} {a0 : Array Value} {h0 : Heap} {n0 : Nat} {P : Option Value → Heap → List Loc → Prop} (hw : ∀ d ∈ tables_1, d.before a0 Z = true) (C : own_Ctx p s m meth c Z (⟨"com/example/objwire/objwire/rpc/Pdu", "sealedFrom", "()I"⟩ : MethodName) prog_106_method_12_code 2 (some .int)) (Z0 : n0 ≤ h0.size) {o0 : Nat} {s_type : Int32} {s_flags : Int32} {s_callId : Int32} {s_authLength : Int32} (rr : Int32) (hP : ∀ v h L, Fr n0 L → Keep h0 h [] → E4 Z h0 o0 s_type s_flags s_callId s_authLength rr v h → P v h L)
    {T : State} {locs : List Loc} {h : Heap} (X : Stand p l e rmR4 s m args below meth c T locs 0 0) (e0 : T.heap = h) (N : Fr n0 locs) (K : Keep h0 h []) (g_o0 : n0 ≤ o0) (E_o0 : Exa Z h o0 "com/example/objwire/objwire/rpc/Pdu") (F_o0_type : Fld Z h o0 "com/example/objwire/objwire/rpc/Pdu" "type" "I" (.int s_type)) (F_o0_flags : Fld Z h o0 "com/example/objwire/objwire/rpc/Pdu" "flags" "I" (.int s_flags)) (F_o0_callId : Fld Z h o0 "com/example/objwire/objwire/rpc/Pdu" "callId" "I" (.int s_callId)) (F_o0_body : Fld Z h o0 "com/example/objwire/objwire/rpc/Pdu" "body" "[B" (.ref bd)) (F_o0_authLength : Fld Z h o0 "com/example/objwire/objwire/rpc/Pdu" "authLength" "I" (.int s_authLength)) (s0 : Slot) (hs0 : One s0) (t0 : Int32) (hv : f4_54 t0 = some rr) :
    own_WP p e below (own_Q s P rmR4.cells rmR4.slots) T (mkF m 54 #[s0, .unset] [(.int t0)]) := by
  obtain ⟨hx, hZ, hby, hml, hown, hnm, hret, hlk⟩ := id C
  replace hown : s.vm.findClass "com/example/objwire/objwire/rpc/Pdu" = some m.cls := hown
  unfold f4_54 at hv
  show own_WP p e below _ T (mkF m 54 #[s0, .unset] [(.int t0)])
  refine own_go (fun _ => XS.istoreN X.here hx rfl (hb hby d4_54) rfl (l' := #[s0, .val (.int t0)]) rfl) ?_
  show own_WP p e below _ T (mkF m 55 #[s0, .val (.int t0)] [])
  refine own_go (fun _ => XS.goto X.here hx rfl (pc0 := 55) (pc' := 87) rfl (hb hby d4_55) (by decide) (by decide)) ?_
  exact b4_87 hw C Z0 rr hP X e0 N K g_o0 E_o0 F_o0_type F_o0_flags F_o0_callId F_o0_body F_o0_authLength s0 hs0 t0 hv
def f4_0 (s_type : Int32) (s_flags : Int32) : Option (Int32) := (if s_type = (0 : Int32) then (if (s_flags &&& (128 : Int32)) = (0 : Int32) then (f4_54 (8 : Int32)) else (f4_54 (24 : Int32))) else (if s_type = (1 : Int32) then none else (if s_type = (2 : Int32) then (f4_87 (8 : Int32)) else (if s_type = (3 : Int32) then (f4_87 (16 : Int32)) else none))))
set_option maxRecDepth 65536 in
set_option maxHeartbeats 40000000 in
theorem b4_0 {p : Program} {l : Launch} {e : Env} {s : State} {m : MethodId} {args : Array Value} {below : List Frame} {meth : Method} {c : Code} {Z : State} {a0 : Array Value} {h0 : Heap} {n0 : Nat} {P : Option Value → Heap → List Loc → Prop} (hw : ∀ d ∈ tables_1, d.before a0 Z = true) (C : own_Ctx p s m meth c Z (⟨"com/example/objwire/objwire/rpc/Pdu", "sealedFrom", "()I"⟩ : MethodName) prog_106_method_12_code 2 (some .int)) (Z0 : n0 ≤ h0.size) {o0 : Nat} {s_type : Int32} {s_flags : Int32} {s_callId : Int32} {s_authLength : Int32} (rr : Int32) (hP : ∀ v h L, Fr n0 L → Keep h0 h [] → E4 Z h0 o0 s_type s_flags s_callId s_authLength rr v h → P v h L)
    {T : State} {locs : List Loc} {h : Heap} (X : Stand p l e rmR4 s m args below meth c T locs 0 0) (e0 : T.heap = h) (N : Fr n0 locs) (K : Keep h0 h []) (g_o0 : n0 ≤ o0) (E_o0 : Exa Z h o0 "com/example/objwire/objwire/rpc/Pdu") (F_o0_type : Fld Z h o0 "com/example/objwire/objwire/rpc/Pdu" "type" "I" (.int s_type)) (F_o0_flags : Fld Z h o0 "com/example/objwire/objwire/rpc/Pdu" "flags" "I" (.int s_flags)) (F_o0_callId : Fld Z h o0 "com/example/objwire/objwire/rpc/Pdu" "callId" "I" (.int s_callId)) (F_o0_body : Fld Z h o0 "com/example/objwire/objwire/rpc/Pdu" "body" "[B" (.ref bd)) (F_o0_authLength : Fld Z h o0 "com/example/objwire/objwire/rpc/Pdu" "authLength" "I" (.int s_authLength)) (hv : f4_0 s_type s_flags = some rr) :
    own_WP p e below (own_Q s P rmR4.cells rmR4.slots) T (mkF m 0 #[.val (.ref o0), .unset] []) := by
  obtain ⟨hx, hZ, hby, hml, hown, hnm, hret, hlk⟩ := id C
  replace hown : s.vm.findClass "com/example/objwire/objwire/rpc/Pdu" = some m.cls := hown
  unfold f4_0 at hv
  show own_WP p e below _ T (mkF m 0 #[.val (.ref o0), .unset] [])
  refine own_go (fun _ => XS.aloadN X.here hx rfl (hb hby d4_0) rfl rfl) ?_
  show own_WP p e below _ T (mkF m 1 #[.val (.ref o0), .unset] [(.ref o0)])
  obtain ⟨T1, X1, e1, st1⟩ := getF X hx hZ hown (host := "") (Or.inl (hw _ (List.mem_of_getElem? (i := 16) rfl))) Via.refl e0 F_o0_type (g := (mkF m 1 #[.val (.ref o0), .unset] [(.ref o0)])) rfl rfl (hb hby d4_1)
  refine own_go st1 ?_
  show own_WP p e below _ T1 (mkF m 4 #[.val (.ref o0), .unset] [(.int s_type)])
  by_cases h4_0 : s_type = (0 : Int32)
  · replace hv := (if_pos h4_0).symm.trans hv
    have hz4_0 : s_type.toInt = 0 := by rw [h4_0]; rfl
    have A1 : ¬ (s_type.toInt < 0 ∨ s_type.toInt > 3) := by rw [hz4_0]; decide
    have A2 : (#[32, 66, 54, 60] : Array Int)[(s_type.toInt - 0).toNat]? = some 32 := by rw [hz4_0]; rfl
    refine own_go (fun _ => XS.tswIn (g := (mkF m 4 #[.val (.ref o0), .unset] [(.int s_type)])) X1.here hx rfl (pc0 := 4) (pc' := 36) rfl (hb hby d4_4) (i := s_type) (rest := []) rfl A1 A2 (by decide) (by decide)) ?_
    show own_WP p e below _ T1 (mkF m 36 #[.val (.ref o0), .unset] [])
    refine own_go (fun _ => XS.aloadN X1.here hx rfl (hb hby d4_36) rfl rfl) ?_
    show own_WP p e below _ T1 (mkF m 37 #[.val (.ref o0), .unset] [(.ref o0)])
    obtain ⟨T2, X2, e2, st2⟩ := getF X1 hx hZ hown (host := "") (Or.inl (hw _ (List.mem_of_getElem? (i := 18) rfl))) Via.refl e1 F_o0_flags (g := (mkF m 37 #[.val (.ref o0), .unset] [(.ref o0)])) rfl rfl (hb hby d4_37)
    refine own_go st2 ?_
    show own_WP p e below _ T2 (mkF m 40 #[.val (.ref o0), .unset] [(.int s_flags)])
    refine own_go (fun _ => XS.sipush X2.here hx rfl (hb hby d4_40)) ?_
    show own_WP p e below _ T2 (mkF m 43 #[.val (.ref o0), .unset] [(.int (128 : Int32)), (.int s_flags)])
    refine own_go (fun _ => XS.iand X2.here hx rfl (hb hby d4_43) rfl) ?_
    show own_WP p e below _ T2 (mkF m 44 #[.val (.ref o0), .unset] [(.int (s_flags &&& (128 : Int32)))])
    by_cases h44 : (s_flags &&& (128 : Int32)) = (0 : Int32)
    · replace hv := (if_pos h44).symm.trans hv
      refine own_go (fun _ => XS.ifYes X2.here hx rfl (pc0 := 44) (pc' := 52) rfl (hb hby d4_44) rfl (XT.i0_eq_t h44) (by decide) (by decide)) ?_
      show own_WP p e below _ T2 (mkF m 52 #[.val (.ref o0), .unset] [])
      refine own_go (fun _ => XS.bipush X2.here hx rfl (hb hby d4_52)) ?_
      exact b4_54 hw C Z0 rr hP X2 e2 N K g_o0 E_o0 F_o0_type F_o0_flags F_o0_callId F_o0_body F_o0_authLength (.val (.ref o0)) (One.val rfl) (8 : Int32) hv
    · replace hv := (if_neg h44).symm.trans hv
      refine own_go (fun _ => XS.ifNo X2.here hx rfl (hb hby d4_44) rfl (XT.i0_eq_f h44)) ?_
      show own_WP p e below _ T2 (mkF m 47 #[.val (.ref o0), .unset] [])
      refine own_go (fun _ => XS.bipush X2.here hx rfl (hb hby d4_47)) ?_
      show own_WP p e below _ T2 (mkF m 49 #[.val (.ref o0), .unset] [(.int (24 : Int32))])
      refine own_go (fun _ => XS.goto X2.here hx rfl (pc0 := 49) (pc' := 54) rfl (hb hby d4_49) (by decide) (by decide)) ?_
      exact b4_54 hw C Z0 rr hP X2 e2 N K g_o0 E_o0 F_o0_type F_o0_flags F_o0_callId F_o0_body F_o0_authLength (.val (.ref o0)) (One.val rfl) (24 : Int32) hv
  replace hv := (if_neg h4_0).symm.trans hv
  by_cases h4_1 : s_type = (1 : Int32)
  · replace hv := (if_pos h4_1).symm.trans hv
    have hz4_1 : s_type.toInt = 1 := by rw [h4_1]; rfl
    have A1 : ¬ (s_type.toInt < 0 ∨ s_type.toInt > 3) := by rw [hz4_1]; decide
    have A2 : (#[32, 66, 54, 60] : Array Int)[(s_type.toInt - 0).toNat]? = some 66 := by rw [hz4_1]; rfl
    refine own_go (fun _ => XS.tswIn (g := (mkF m 4 #[.val (.ref o0), .unset] [(.int s_type)])) X1.here hx rfl (pc0 := 4) (pc' := 70) rfl (hb hby d4_4) (i := s_type) (rest := []) rfl A1 A2 (by decide) (by decide)) ?_
    cases hv
  replace hv := (if_neg h4_1).symm.trans hv
  by_cases h4_2 : s_type = (2 : Int32)
  · replace hv := (if_pos h4_2).symm.trans hv
    have hz4_2 : s_type.toInt = 2 := by rw [h4_2]; rfl
    have A1 : ¬ (s_type.toInt < 0 ∨ s_type.toInt > 3) := by rw [hz4_2]; decide
    have A2 : (#[32, 66, 54, 60] : Array Int)[(s_type.toInt - 0).toNat]? = some 54 := by rw [hz4_2]; rfl
    refine own_go (fun _ => XS.tswIn (g := (mkF m 4 #[.val (.ref o0), .unset] [(.int s_type)])) X1.here hx rfl (pc0 := 4) (pc' := 58) rfl (hb hby d4_4) (i := s_type) (rest := []) rfl A1 A2 (by decide) (by decide)) ?_
    show own_WP p e below _ T1 (mkF m 58 #[.val (.ref o0), .unset] [])
    refine own_go (fun _ => XS.bipush X1.here hx rfl (hb hby d4_58)) ?_
    show own_WP p e below _ T1 (mkF m 60 #[.val (.ref o0), .unset] [(.int (8 : Int32))])
    refine own_go (fun _ => XS.istoreN X1.here hx rfl (hb hby d4_60) rfl (l' := #[.val (.ref o0), .val (.int (8 : Int32))]) rfl) ?_
    show own_WP p e below _ T1 (mkF m 61 #[.val (.ref o0), .val (.int (8 : Int32))] [])
    refine own_go (fun _ => XS.goto X1.here hx rfl (pc0 := 61) (pc' := 87) rfl (hb hby d4_61) (by decide) (by decide)) ?_
    exact b4_87 hw C Z0 rr hP X1 e1 N K g_o0 E_o0 F_o0_type F_o0_flags F_o0_callId F_o0_body F_o0_authLength (.val (.ref o0)) (One.val rfl) (8 : Int32) hv
  replace hv := (if_neg h4_2).symm.trans hv
  by_cases h4_3 : s_type = (3 : Int32)
  · replace hv := (if_pos h4_3).symm.trans hv
    have hz4_3 : s_type.toInt = 3 := by rw [h4_3]; rfl
    have A1 : ¬ (s_type.toInt < 0 ∨ s_type.toInt > 3) := by rw [hz4_3]; decide
    have A2 : (#[32, 66, 54, 60] : Array Int)[(s_type.toInt - 0).toNat]? = some 60 := by rw [hz4_3]; rfl
    refine own_go (fun _ => XS.tswIn (g := (mkF m 4 #[.val (.ref o0), .unset] [(.int s_type)])) X1.here hx rfl (pc0 := 4) (pc' := 64) rfl (hb hby d4_4) (i := s_type) (rest := []) rfl A1 A2 (by decide) (by decide)) ?_
    show own_WP p e below _ T1 (mkF m 64 #[.val (.ref o0), .unset] [])
    refine own_go (fun _ => XS.bipush X1.here hx rfl (hb hby d4_64)) ?_
    show own_WP p e below _ T1 (mkF m 66 #[.val (.ref o0), .unset] [(.int (16 : Int32))])
    refine own_go (fun _ => XS.istoreN X1.here hx rfl (hb hby d4_66) rfl (l' := #[.val (.ref o0), .val (.int (16 : Int32))]) rfl) ?_
    show own_WP p e below _ T1 (mkF m 67 #[.val (.ref o0), .val (.int (16 : Int32))] [])
    refine own_go (fun _ => XS.goto X1.here hx rfl (pc0 := 67) (pc' := 87) rfl (hb hby d4_67) (by decide) (by decide)) ?_
    exact b4_87 hw C Z0 rr hP X1 e1 N K g_o0 E_o0 F_o0_type F_o0_flags F_o0_callId F_o0_body F_o0_authLength (.val (.ref o0)) (One.val rfl) (16 : Int32) hv
  replace hv := (if_neg h4_3).symm.trans hv
  cases hv
theorem ef4 (m : MethodId) (o0 : Nat) : entryFrame m #[(.ref o0)] 2 = (mkF m 0 #[.val (.ref o0), .unset] []) := by first | (simp [entryFrame, mkF, argsToLocals, Value.category]; done) | rfl
theorem pd4 : parseMethodDescriptor "()I" = some ⟨[], some .int⟩ := by decide +kernel
theorem pn4 : plainFor (⟨"com/example/objwire/objwire/rpc/Pdu", "sealedFrom", "()I"⟩ : MethodName) = true := plainFor_of_name (by first | (simp [plainName, overriddenIn]; done) | decide +kernel)
theorem rm4 (l : Launch) (Z : State) (a0 : Array Value) (hw : ∀ d ∈ tables_1, d.before a0 Z = true) (n0 : Nat) (h0 : Heap) (Z0 : n0 ≤ h0.size) {o0 : Nat} {s_type : Int32} {s_flags : Int32} {s_callId : Int32} {s_authLength : Int32}  (g_o0 : n0 ≤ o0) (E_o0 : Exa Z h0 o0 "com/example/objwire/objwire/rpc/Pdu") (F_o0_type : Fld Z h0 o0 "com/example/objwire/objwire/rpc/Pdu" "type" "I" (.int s_type)) (F_o0_flags : Fld Z h0 o0 "com/example/objwire/objwire/rpc/Pdu" "flags" "I" (.int s_flags)) (F_o0_callId : Fld Z h0 o0 "com/example/objwire/objwire/rpc/Pdu" "callId" "I" (.int s_callId)) (F_o0_body : Fld Z h0 o0 "com/example/objwire/objwire/rpc/Pdu" "body" "[B" (.ref bd)) (F_o0_authLength : Fld Z h0 o0 "com/example/objwire/objwire/rpc/Pdu" "authLength" "I" (.int s_authLength))   (rr : Int32) (hf : f4_0 s_type s_flags = some rr) :
    own_Met l Z (⟨"com/example/objwire/objwire/rpc/Pdu", "sealedFrom", "()I"⟩ : MethodName) prog_106_method_12_code 2 (some .int) [] rmR4 #[(.ref o0)] h0 (fun v h L => Fr n0 L ∧ Keep h0 h [] ∧ E4 Z h0 o0 s_type s_flags s_callId s_authLength rr v h) := by
  refine own_body pn4 ?_
  intro p e s m below meth c s₁ C X e0
  exact own_cast (ef4 m o0) (b4_0 hw C Z0 rr (fun v h L a b c => ⟨a, b, c⟩) X e0 (Fr.nil n0) (Keep.refl h0 []) g_o0 E_o0 F_o0_type F_o0_flags F_o0_callId F_o0_body F_o0_authLength hf)
def E0 (Z : State) (h0 : Heap)   (rr : Int32) (v : Option Value) (h : Heap) : Prop := v = some (.int rr)
def f0_173 (c_b38_type : Int32) (c_b38_flags : Int32) (x12 : Int32) : Option (Int32) := ((f4_0 c_b38_type c_b38_flags).bind fun rr4 => (if rr4 = x12 then (some (1 : Int32)) else (some (0 : Int32))))
set_option maxRecDepth 65536 in
set_option maxHeartbeats 40000000 in
theorem b0_173 {p : Program} {l : Launch} {e : Env} {s : State} {m : MethodId} {args : Array Value} {below : List Frame} {meth : Method} {c : Code} {Z : State} {a0 : Array Value} {h0 : Heap} {n0 : Nat} {P : Option Value → Heap → List Loc → Prop} (hw : ∀ d ∈ tables_1, d.before a0 Z = true) (C : own_Ctx p s m meth c Z x code maxLocals ret) (Z0 : n0 ≤ h0.size)   (rr : Int32) (hP : ∀ v h L, Fr n0 L → Keep h0 h [] → E0 Z h0  rr v h → P v h L)
    {T : State} {locs : List Loc} {h : Heap} {b34 : Nat} {b38 : Nat} {v_b34 : List Int32} {c_b38_type : Int32} {c_b38_flags : Int32} {c_b38_callId : Int32} {c_b38_authLength : Int32} (X : Stand p l e room_1 s m args below meth c T locs 2 36) (e0 : T.heap = h) (N : Fr n0 locs) (K : Keep h0 h []) (o_b34_b38 : b34 < b38) (g_b34 : n0 ≤ b34) (z_b34 : h0.size ≤ b34) (V_b34 : own_AI Z h b34 .byte v_b34) (E_b38 : Exa Z h b38 "com/example/objwire/objwire/rpc/Pdu") (F_b38_type : Fld Z h b38 "com/example/objwire/objwire/rpc/Pdu" "type" "I" (.int c_b38_type)) (F_b38_flags : Fld Z h b38 "com/example/objwire/objwire/rpc/Pdu" "flags" "I" (.int c_b38_flags)) (F_b38_callId : Fld Z h b38 "com/example/objwire/objwire/rpc/Pdu" "callId" "I" (.int c_b38_callId)) (F_b38_body : Fld Z h b38 "com/example/objwire/objwire/rpc/Pdu" "body" "[B" (.ref b34)) (F_b38_authLength : Fld Z h b38 "com/example/objwire/objwire/rpc/Pdu" "authLength" "I" (.int c_b38_authLength)) (x0 : Int32) (x1 : Int32) (x2 : Int32) (x3 : Int32) (x4 : Int32) (x5 : Int32) (x6 : Int32) (s7 : Slot) (hs7 : One s7) (x9 : Int32) (x10 : Int32) (x11 : Int32) (x12 : Int32) (x13 : Int32) (x14 : Int32) (s15 : Slot) (hs15 : One s15) (s16 : Slot) (hs16 : One s16) (hv : f0_173 c_b38_type c_b38_flags x12 = some rr) :
    own_WP p e below (own_Q s P room_1.cells room_1.slots) T (mkF m 173 #[.val (.int x0), .val (.int x1), .val (.int x2), .val (.int x3), .val (.int x4), .val (.int x5), .val (.int x6), s7, .val (.ref b38), .val (.int x9), .val (.int x10), .val (.int x11), .val (.int x12), .val (.int x13), .val (.int x14), s15, s16] []) := by
  obtain ⟨hx, hZ, hby, hml, hown, hnm, hret, hlk⟩ := id C
  replace hown : s.vm.findClass "com/example/objwire/objwire/rpc/PduSealedFromPinLaw" = some m.cls := hown
  unfold f0_173 at hv
  show own_WP p e below _ T (mkF m 173 #[.val (.int x0), .val (.int x1), .val (.int x2), .val (.int x3), .val (.int x4), .val (.int x5), .val (.int x6), s7, .val (.ref b38), .val (.int x9), .val (.int x10), .val (.int x11), .val (.int x12), .val (.int x13), .val (.int x14), s15, s16] [])
  refine own_go (fun _ => XS.aload X.here hx rfl (hb hby at_173) rfl rfl) ?_
  show own_WP p e below _ T (mkF m 175 #[.val (.int x0), .val (.int x1), .val (.int x2), .val (.int x3), .val (.int x4), .val (.int x5), .val (.int x6), s7, .val (.ref b38), .val (.int x9), .val (.int x10), .val (.int x11), .val (.int x12), .val (.int x13), .val (.int x14), s15, s16] [(.ref b38)])
  obtain ⟨rr4, hf4, hv⟩ := own_bind hv
  obtain ⟨T4, v4, L4, X4, ⟨N4, K4, Q4⟩, st4⟩ := own_callV X C (a := b38) (argsL := []) (rm4 l Z a0 hw n0 h (by have q := K.1; omega) (by omega) E_b38 F_b38_type F_b38_flags F_b38_callId F_b38_body F_b38_authLength rr4 hf4) (hw _ (List.mem_of_getElem? (i := 26) rfl)) (hw _ (List.mem_of_getElem? (i := 27) rfl)) (hw _ (List.mem_of_getElem? (i := 29) rfl)) (hw _ (List.mem_of_getElem? (i := 28) rfl)) (hw _ (List.mem_of_getElem? (i := 4) rfl)) (hw _ (List.mem_of_getElem? (i := 30) rfl)) (by decide) e0 E_b38 (W := 0) (pc := 175) (Ls := #[.val (.int x0), .val (.int x1), .val (.int x2), .val (.int x3), .val (.int x4), .val (.int x5), .val (.int x6), s7, .val (.ref b38), .val (.int x9), .val (.int x10), .val (.int x11), .val (.int x12), .val (.int x13), .val (.int x14), s15, s16]) rfl (lenOf pd4 rfl) (rest := []) (stk := [(.ref b38)]) rfl (Nat.le_of_ble_eq_true rfl) (hb hby at_175) (by decide) (by decide) (by decide) (by decide)
  replace N := Fr.app N N4
  replace V_b34 := V_b34.keep K4 nin0
  replace E_b38 := E_b38.keep K4
  replace F_b38_type := F_b38_type.keep K4 nin0
  replace F_b38_flags := F_b38_flags.keep K4 nin0
  replace F_b38_callId := F_b38_callId.keep K4 nin0
  replace F_b38_body := F_b38_body.keep K4 nin0
  replace F_b38_authLength := F_b38_authLength.keep K4 nin0
  obtain ⟨rfl⟩ := Q4
  replace K := K.trans K4 all0
  refine own_go st4 ?_
  show own_WP p e below _ T4 (mkF m 178 #[.val (.int x0), .val (.int x1), .val (.int x2), .val (.int x3), .val (.int x4), .val (.int x5), .val (.int x6), s7, .val (.ref b38), .val (.int x9), .val (.int x10), .val (.int x11), .val (.int x12), .val (.int x13), .val (.int x14), s15, s16] [(.int rr4)])
  refine own_go (fun _ => XS.iload X4.here hx rfl (hb hby at_178) rfl) ?_
  show own_WP p e below _ T4 (mkF m 180 #[.val (.int x0), .val (.int x1), .val (.int x2), .val (.int x3), .val (.int x4), .val (.int x5), .val (.int x6), s7, .val (.ref b38), .val (.int x9), .val (.int x10), .val (.int x11), .val (.int x12), .val (.int x13), .val (.int x14), s15, s16] [(.int x12), (.int rr4)])
  by_cases h180 : rr4 = x12
  · replace hv := (if_pos h180).symm.trans hv
    refine own_go (fun _ => XS.icmpNo X4.here hx rfl (hb hby at_180) rfl (XT.ii_ne_f h180)) ?_
    show own_WP p e below _ T4 (mkF m 183 #[.val (.int x0), .val (.int x1), .val (.int x2), .val (.int x3), .val (.int x4), .val (.int x5), .val (.int x6), s7, .val (.ref b38), .val (.int x9), .val (.int x10), .val (.int x11), .val (.int x12), .val (.int x13), .val (.int x14), s15, s16] [])
    refine own_go (fun _ => XS.iconst X4.here hx rfl (hb hby at_183)) ?_
    show own_WP p e below _ T4 (mkF m 184 #[.val (.int x0), .val (.int x1), .val (.int x2), .val (.int x3), .val (.int x4), .val (.int x5), .val (.int x6), s7, .val (.ref b38), .val (.int x9), .val (.int x10), .val (.int x11), .val (.int x12), .val (.int x13), .val (.int x14), s15, s16] [(.int (1 : Int32))])
    refine own_go (fun _ => XS.goto X4.here hx rfl (pc0 := 184) (pc' := 188) rfl (hb hby at_184) (by decide) (by decide)) ?_
    show own_WP p e below _ T4 (mkF m 188 #[.val (.int x0), .val (.int x1), .val (.int x2), .val (.int x3), .val (.int x4), .val (.int x5), .val (.int x6), s7, .val (.ref b38), .val (.int x9), .val (.int x10), .val (.int x11), .val (.int x12), .val (.int x13), .val (.int x14), s15, s16] [(.int (1 : Int32))])
    obtain rfl := Option.some.inj hv
    exact own_retN X4 C (by simp) (hb hby at_188) (hP _ _ _ N K rfl) (by decide) (by decide)
  · replace hv := (if_neg h180).symm.trans hv
    refine own_go (fun _ => XS.icmpYes X4.here hx rfl (pc0 := 180) (pc' := 187) rfl (hb hby at_180) rfl (XT.ii_ne_t h180) (by decide) (by decide)) ?_
    show own_WP p e below _ T4 (mkF m 187 #[.val (.int x0), .val (.int x1), .val (.int x2), .val (.int x3), .val (.int x4), .val (.int x5), .val (.int x6), s7, .val (.ref b38), .val (.int x9), .val (.int x10), .val (.int x11), .val (.int x12), .val (.int x13), .val (.int x14), s15, s16] [])
    refine own_go (fun _ => XS.iconst X4.here hx rfl (hb hby at_187)) ?_
    show own_WP p e below _ T4 (mkF m 188 #[.val (.int x0), .val (.int x1), .val (.int x2), .val (.int x3), .val (.int x4), .val (.int x5), .val (.int x6), s7, .val (.ref b38), .val (.int x9), .val (.int x10), .val (.int x11), .val (.int x12), .val (.int x13), .val (.int x14), s15, s16] [(.int (0 : Int32))])
    obtain rfl := Option.some.inj hv
    exact own_retN X4 C (by simp) (hb hby at_188) (hP _ _ _ N K rfl) (by decide) (by decide)
def f0_87 (c_b38_type : Int32) (c_b38_flags : Int32) (x9 : Int32) (x10 : Int32) (x11 : Int32) (x13 : Int32) (t0 : Int32) : Option (Int32) := (f0_173 c_b38_type c_b38_flags ((((x9 + x10) + x11) + x13) + t0))
set_option maxRecDepth 65536 in
set_option maxHeartbeats 40000000 in
theorem b0_87 {p : Program} {l : Launch} {e : Env} {s : State} {m : MethodId} {args : Array Value} {below : List Frame} {meth : Method} {c : Code} {Z : State} {a0 : Array Value} {h0 : Heap} {n0 : Nat} {P : Option Value → Heap → List Loc → Prop} (hw : ∀ d ∈ tables_1, d.before a0 Z = true) (C : own_Ctx p s m meth c Z x code maxLocals ret) (Z0 : n0 ≤ h0.size)   (rr : Int32) (hP : ∀ v h L, Fr n0 L → Keep h0 h [] → E0 Z h0  rr v h → P v h L)
    {T : State} {locs : List Loc} {h : Heap} {b34 : Nat} {b38 : Nat} {v_b34 : List Int32} {c_b38_type : Int32} {c_b38_flags : Int32} {c_b38_callId : Int32} {c_b38_authLength : Int32} (X : Stand p l e room_1 s m args below meth c T locs 2 36) (e0 : T.heap = h) (N : Fr n0 locs) (K : Keep h0 h []) (o_b34_b38 : b34 < b38) (g_b34 : n0 ≤ b34) (z_b34 : h0.size ≤ b34) (V_b34 : own_AI Z h b34 .byte v_b34) (E_b38 : Exa Z h b38 "com/example/objwire/objwire/rpc/Pdu") (F_b38_type : Fld Z h b38 "com/example/objwire/objwire/rpc/Pdu" "type" "I" (.int c_b38_type)) (F_b38_flags : Fld Z h b38 "com/example/objwire/objwire/rpc/Pdu" "flags" "I" (.int c_b38_flags)) (F_b38_callId : Fld Z h b38 "com/example/objwire/objwire/rpc/Pdu" "callId" "I" (.int c_b38_callId)) (F_b38_body : Fld Z h b38 "com/example/objwire/objwire/rpc/Pdu" "body" "[B" (.ref b34)) (F_b38_authLength : Fld Z h b38 "com/example/objwire/objwire/rpc/Pdu" "authLength" "I" (.int c_b38_authLength)) (x0 : Int32) (x1 : Int32) (x2 : Int32) (x3 : Int32) (x4 : Int32) (x5 : Int32) (x6 : Int32) (s7 : Slot) (hs7 : One s7) (x9 : Int32) (x10 : Int32) (x11 : Int32) (x13 : Int32) (t0 : Int32) (hv : f0_87 c_b38_type c_b38_flags x9 x10 x11 x13 t0 = some rr) :
    own_WP p e below (own_Q s P room_1.cells room_1.slots) T (mkF m 87 #[.val (.int x0), .val (.int x1), .val (.int x2), .val (.int x3), .val (.int x4), .val (.int x5), .val (.int x6), s7, .val (.ref b38), .val (.int x9), .val (.int x10), .val (.int x11), .unset, .val (.int x13), .unset, .unset, .unset] [(.int t0)]) := by
  obtain ⟨hx, hZ, hby, hml, hown, hnm, hret, hlk⟩ := id C
  replace hown : s.vm.findClass "com/example/objwire/objwire/rpc/PduSealedFromPinLaw" = some m.cls := hown
  unfold f0_87 at hv
  show own_WP p e below _ T (mkF m 87 #[.val (.int x0), .val (.int x1), .val (.int x2), .val (.int x3), .val (.int x4), .val (.int x5), .val (.int x6), s7, .val (.ref b38), .val (.int x9), .val (.int x10), .val (.int x11), .unset, .val (.int x13), .unset, .unset, .unset] [(.int t0)])
  refine own_go (fun _ => XS.istore X.here hx rfl (hb hby at_87) rfl (l' := #[.val (.int x0), .val (.int x1), .val (.int x2), .val (.int x3), .val (.int x4), .val (.int x5), .val (.int x6), s7, .val (.ref b38), .val (.int x9), .val (.int x10), .val (.int x11), .unset, .val (.int x13), .val (.int t0), .unset, .unset]) rfl) ?_
  show own_WP p e below _ T (mkF m 89 #[.val (.int x0), .val (.int x1), .val (.int x2), .val (.int x3), .val (.int x4), .val (.int x5), .val (.int x6), s7, .val (.ref b38), .val (.int x9), .val (.int x10), .val (.int x11), .unset, .val (.int x13), .val (.int t0), .unset, .unset] [])
  refine own_go (fun _ => XS.iload X.here hx rfl (hb hby at_89) rfl) ?_
  show own_WP p e below _ T (mkF m 91 #[.val (.int x0), .val (.int x1), .val (.int x2), .val (.int x3), .val (.int x4), .val (.int x5), .val (.int x6), s7, .val (.ref b38), .val (.int x9), .val (.int x10), .val (.int x11), .unset, .val (.int x13), .val (.int t0), .unset, .unset] [(.int x9)])
  refine own_go (fun _ => XS.iload X.here hx rfl (hb hby at_91) rfl) ?_
  show own_WP p e below _ T (mkF m 93 #[.val (.int x0), .val (.int x1), .val (.int x2), .val (.int x3), .val (.int x4), .val (.int x5), .val (.int x6), s7, .val (.ref b38), .val (.int x9), .val (.int x10), .val (.int x11), .unset, .val (.int x13), .val (.int t0), .unset, .unset] [(.int x10), (.int x9)])
  refine own_go (fun _ => XS.iadd X.here hx rfl (hb hby at_93) rfl) ?_
  show own_WP p e below _ T (mkF m 94 #[.val (.int x0), .val (.int x1), .val (.int x2), .val (.int x3), .val (.int x4), .val (.int x5), .val (.int x6), s7, .val (.ref b38), .val (.int x9), .val (.int x10), .val (.int x11), .unset, .val (.int x13), .val (.int t0), .unset, .unset] [(.int (x9 + x10))])
  refine own_go (fun _ => XS.iload X.here hx rfl (hb hby at_94) rfl) ?_
  show own_WP p e below _ T (mkF m 96 #[.val (.int x0), .val (.int x1), .val (.int x2), .val (.int x3), .val (.int x4), .val (.int x5), .val (.int x6), s7, .val (.ref b38), .val (.int x9), .val (.int x10), .val (.int x11), .unset, .val (.int x13), .val (.int t0), .unset, .unset] [(.int x11), (.int (x9 + x10))])
  refine own_go (fun _ => XS.iadd X.here hx rfl (hb hby at_96) rfl) ?_
  show own_WP p e below _ T (mkF m 97 #[.val (.int x0), .val (.int x1), .val (.int x2), .val (.int x3), .val (.int x4), .val (.int x5), .val (.int x6), s7, .val (.ref b38), .val (.int x9), .val (.int x10), .val (.int x11), .unset, .val (.int x13), .val (.int t0), .unset, .unset] [(.int ((x9 + x10) + x11))])
  refine own_go (fun _ => XS.iload X.here hx rfl (hb hby at_97) rfl) ?_
  show own_WP p e below _ T (mkF m 99 #[.val (.int x0), .val (.int x1), .val (.int x2), .val (.int x3), .val (.int x4), .val (.int x5), .val (.int x6), s7, .val (.ref b38), .val (.int x9), .val (.int x10), .val (.int x11), .unset, .val (.int x13), .val (.int t0), .unset, .unset] [(.int x13), (.int ((x9 + x10) + x11))])
  refine own_go (fun _ => XS.iadd X.here hx rfl (hb hby at_99) rfl) ?_
  show own_WP p e below _ T (mkF m 100 #[.val (.int x0), .val (.int x1), .val (.int x2), .val (.int x3), .val (.int x4), .val (.int x5), .val (.int x6), s7, .val (.ref b38), .val (.int x9), .val (.int x10), .val (.int x11), .unset, .val (.int x13), .val (.int t0), .unset, .unset] [(.int (((x9 + x10) + x11) + x13))])
  refine own_go (fun _ => XS.iload X.here hx rfl (hb hby at_100) rfl) ?_
  show own_WP p e below _ T (mkF m 102 #[.val (.int x0), .val (.int x1), .val (.int x2), .val (.int x3), .val (.int x4), .val (.int x5), .val (.int x6), s7, .val (.ref b38), .val (.int x9), .val (.int x10), .val (.int x11), .unset, .val (.int x13), .val (.int t0), .unset, .unset] [(.int t0), (.int (((x9 + x10) + x11) + x13))])
  refine own_go (fun _ => XS.iadd X.here hx rfl (hb hby at_102) rfl) ?_
  show own_WP p e below _ T (mkF m 103 #[.val (.int x0), .val (.int x1), .val (.int x2), .val (.int x3), .val (.int x4), .val (.int x5), .val (.int x6), s7, .val (.ref b38), .val (.int x9), .val (.int x10), .val (.int x11), .unset, .val (.int x13), .val (.int t0), .unset, .unset] [(.int ((((x9 + x10) + x11) + x13) + t0))])
  refine own_go (fun _ => XS.istore X.here hx rfl (hb hby at_103) rfl (l' := #[.val (.int x0), .val (.int x1), .val (.int x2), .val (.int x3), .val (.int x4), .val (.int x5), .val (.int x6), s7, .val (.ref b38), .val (.int x9), .val (.int x10), .val (.int x11), .val (.int ((((x9 + x10) + x11) + x13) + t0)), .val (.int x13), .val (.int t0), .unset, .unset]) rfl) ?_
  show own_WP p e below _ T (mkF m 105 #[.val (.int x0), .val (.int x1), .val (.int x2), .val (.int x3), .val (.int x4), .val (.int x5), .val (.int x6), s7, .val (.ref b38), .val (.int x9), .val (.int x10), .val (.int x11), .val (.int ((((x9 + x10) + x11) + x13) + t0)), .val (.int x13), .val (.int t0), .unset, .unset] [])
  refine own_go (fun _ => XS.goto X.here hx rfl (pc0 := 105) (pc' := 173) rfl (hb hby at_105) (by decide) (by decide)) ?_
  exact b0_173 hw C Z0 rr hP X e0 N K o_b34_b38 g_b34 z_b34 V_b34 E_b38 F_b38_type F_b38_flags F_b38_callId F_b38_body F_b38_authLength x0 x1 x2 x3 x4 x5 x6 s7 hs7 x9 x10 x11 ((((x9 + x10) + x11) + x13) + t0) x13 t0 (.unset) One.u (.unset) One.u hv
def f0_28 (x1 : Int32) (x2 : Int32) (x3 : Int32) (x4 : Int32) (t0 : Int32) : Option (Int32) := (if (x3 &&& (31 : Int32)) < 0 ∨ 31 < (x3 &&& (31 : Int32)).toInt then none else ((f1_0 t0 x1 x2 x4).bind fun rr3 => (if t0 = (0 : Int32) then (if (x1 &&& (128 : Int32)) = (0 : Int32) then (f0_87 (rr3.1) (rr3.2.1) (16 : Int32) (4 : Int32) (2 : Int32) (2 : Int32) (0 : Int32)) else (f0_87 (rr3.1) (rr3.2.1) (16 : Int32) (4 : Int32) (2 : Int32) (2 : Int32) (16 : Int32))) else (if t0 = (2 : Int32) then (own_let (((((16 : Int32) + (4 : Int32)) + (2 : Int32)) + (1 : Int32)) + (1 : Int32)) fun y5 => (f0_173 (rr3.1) (rr3.2.1) y5)) else (own_let (((((((16 : Int32) + (4 : Int32)) + (2 : Int32)) + (1 : Int32)) + (1 : Int32)) + (4 : Int32)) + (4 : Int32)) fun y6 => (f0_173 (rr3.1) (rr3.2.1) y6))))))
set_option maxRecDepth 65536 in
set_option maxHeartbeats 40000000 in
theorem b0_28 {p : Program} {l : Launch} {e : Env} {s : State} {m : MethodId} {args : Array Value} {below : List Frame} {meth : Method} {c : Code} {Z : State} {a0 : Array Value} {h0 : Heap} {n0 : Nat} {P : Option Value → Heap → List Loc → Prop} (hw : ∀ d ∈ tables_1, d.before a0 Z = true) (C : own_Ctx p s m meth c Z x code maxLocals ret) (Z0 : n0 ≤ h0.size)   (rr : Int32) (hP : ∀ v h L, Fr n0 L → Keep h0 h [] → E0 Z h0  rr v h → P v h L)
    {T : State} {locs : List Loc} {h : Heap} (X : Stand p l e room_1 s m args below meth c T locs 0 0) (e0 : T.heap = h) (N : Fr n0 locs) (K : Keep h0 h []) (x0 : Int32) (x1 : Int32) (x2 : Int32) (x3 : Int32) (x4 : Int32) (x5 : Int32) (t0 : Int32) (hv : f0_28 x1 x2 x3 x4 t0 = some rr) :
    own_WP p e below (own_Q s P room_1.cells room_1.slots) T (mkF m 28 #[.val (.int x0), .val (.int x1), .val (.int x2), .val (.int x3), .val (.int x4), .val (.int x5), .unset, .unset, .unset, .unset, .unset, .unset, .unset, .unset, .unset, .unset, .unset] [(.int t0)]) := by
  obtain ⟨hx, hZ, hby, hml, hown, hnm, hret, hlk⟩ := id C
  replace hown : s.vm.findClass "com/example/objwire/objwire/rpc/PduSealedFromPinLaw" = some m.cls := hown
  unfold f0_28 at hv
  show own_WP p e below _ T (mkF m 28 #[.val (.int x0), .val (.int x1), .val (.int x2), .val (.int x3), .val (.int x4), .val (.int x5), .unset, .unset, .unset, .unset, .unset, .unset, .unset, .unset, .unset, .unset, .unset] [(.int t0)])
  refine own_go (fun _ => XS.istore X.here hx rfl (hb hby at_28) rfl (l' := #[.val (.int x0), .val (.int x1), .val (.int x2), .val (.int x3), .val (.int x4), .val (.int x5), .val (.int t0), .unset, .unset, .unset, .unset, .unset, .unset, .unset, .unset, .unset, .unset]) rfl) ?_
  show own_WP p e below _ T (mkF m 30 #[.val (.int x0), .val (.int x1), .val (.int x2), .val (.int x3), .val (.int x4), .val (.int x5), .val (.int t0), .unset, .unset, .unset, .unset, .unset, .unset, .unset, .unset, .unset, .unset] [])
  refine own_go (fun _ => XS.iloadN X.here hx rfl (hb hby at_30) rfl) ?_
  show own_WP p e below _ T (mkF m 31 #[.val (.int x0), .val (.int x1), .val (.int x2), .val (.int x3), .val (.int x4), .val (.int x5), .val (.int t0), .unset, .unset, .unset, .unset, .unset, .unset, .unset, .unset, .unset, .unset] [(.int x3)])
  refine own_go (fun _ => XS.bipush X.here hx rfl (hb hby at_31)) ?_
  show own_WP p e below _ T (mkF m 33 #[.val (.int x0), .val (.int x1), .val (.int x2), .val (.int x3), .val (.int x4), .val (.int x5), .val (.int t0), .unset, .unset, .unset, .unset, .unset, .unset, .unset, .unset, .unset, .unset] [(.int (31 : Int32)), (.int x3)])
  refine own_go (fun _ => XS.iand X.here hx rfl (hb hby at_33) rfl) ?_
  show own_WP p e below _ T (mkF m 34 #[.val (.int x0), .val (.int x1), .val (.int x2), .val (.int x3), .val (.int x4), .val (.int x5), .val (.int t0), .unset, .unset, .unset, .unset, .unset, .unset, .unset, .unset, .unset, .unset] [(.int (x3 &&& (31 : Int32)))])
  by_cases h34 : (x3 &&& (31 : Int32)) < 0 ∨ 31 < (x3 &&& (31 : Int32)).toInt
  · cases ((if_pos h34).symm.trans hv)
  replace hv := (if_neg h34).symm.trans hv
  obtain ⟨T1, h1, b34, X1, e1, E1, hb_b34, V_b34, st1⟩ := own_newI X C e0 (aty := .byte) (ty := .byte) rfl rfl rfl (hw _ (List.mem_of_getElem? (i := 1) rfl)) (n := (x3 &&& (31 : Int32))) (fun q => h34 (Or.inl q)) (cap := 31) (own_cap (k := 31) rfl (fun q => h34 (Or.inr q))) (by decide) (by decide) (by decide) (pc := 34) (Ls := #[.val (.int x0), .val (.int x1), .val (.int x2), .val (.int x3), .val (.int x4), .val (.int x5), .val (.int t0), .unset, .unset, .unset, .unset, .unset, .unset, .unset, .unset, .unset, .unset]) (rest := []) (hb hby at_34)
  refine own_go st1 ?_
  have g_b34 : n0 ≤ b34 := by have q := K.1; omega
  have z_b34 : h0.size ≤ b34 := by have q := K.1; omega
  replace K := K.ext E1
  show own_WP p e below _ T1 (mkF m 36 #[.val (.int x0), .val (.int x1), .val (.int x2), .val (.int x3), .val (.int x4), .val (.int x5), .val (.int t0), .unset, .unset, .unset, .unset, .unset, .unset, .unset, .unset, .unset, .unset] [(.ref b34)])
  refine own_go (fun _ => XS.astore X1.here hx rfl (hb hby at_36) rfl rfl (l' := #[.val (.int x0), .val (.int x1), .val (.int x2), .val (.int x3), .val (.int x4), .val (.int x5), .val (.int t0), .val (.ref b34), .unset, .unset, .unset, .unset, .unset, .unset, .unset, .unset, .unset]) rfl) ?_
  show own_WP p e below _ T1 (mkF m 38 #[.val (.int x0), .val (.int x1), .val (.int x2), .val (.int x3), .val (.int x4), .val (.int x5), .val (.int t0), .val (.ref b34), .unset, .unset, .unset, .unset, .unset, .unset, .unset, .unset, .unset] [])
  obtain ⟨T2, h2, X2, e2, E2, A2, D2, -, st2⟩ := newO X1 hx hZ hown (hw _ (List.mem_of_getElem? (i := 2) rfl)) (hw _ (List.mem_of_getElem? (i := 3) rfl)) (hw _ (List.mem_of_getElem? (i := 4) rfl)) e1 (g := (mkF m 38 #[.val (.int x0), .val (.int x1), .val (.int x2), .val (.int x3), .val (.int x4), .val (.int x5), .val (.int t0), .val (.ref b34), .unset, .unset, .unset, .unset, .unset, .unset, .unset, .unset, .unset] [])) rfl (hb hby at_38) (by decide) (by decide)
  obtain ⟨b38, hb_b38⟩ : ∃ z, z = h1.size := ⟨_, rfl⟩
  rw [← hb_b38] at A2 D2 st2
  refine own_go st2 ?_
  have o_b34_b38 : b34 < b38 := by have q : b34 < h1.size := V_b34.lt; omega
  replace V_b34 := V_b34.ext E2
  replace K := K.ext E2
  have E_b38 := A2
  have F_b38_type : Fld Z h2 b38 "com/example/objwire/objwire/rpc/Pdu" "type" "I" (.int (0 : Int32)) := D2 (Or.inr (hw _ (List.mem_of_getElem? (i := 17) rfl))) (ty := .int) (by decide)
  have F_b38_flags : Fld Z h2 b38 "com/example/objwire/objwire/rpc/Pdu" "flags" "I" (.int (0 : Int32)) := D2 (Or.inr (hw _ (List.mem_of_getElem? (i := 19) rfl))) (ty := .int) (by decide)
  have F_b38_callId : Fld Z h2 b38 "com/example/objwire/objwire/rpc/Pdu" "callId" "I" (.int (0 : Int32)) := D2 (Or.inr (hw _ (List.mem_of_getElem? (i := 21) rfl))) (ty := .int) (by decide)
  have F_b38_body : Fld Z h2 b38 "com/example/objwire/objwire/rpc/Pdu" "body" "[B" .null := D2 (Or.inr (hw _ (List.mem_of_getElem? (i := 23) rfl))) (ty := (.array .byte)) (by decide)
  have F_b38_authLength : Fld Z h2 b38 "com/example/objwire/objwire/rpc/Pdu" "authLength" "I" (.int (0 : Int32)) := D2 (Or.inr (hw _ (List.mem_of_getElem? (i := 25) rfl))) (ty := .int) (by decide)
  show own_WP p e below _ T2 (mkF m 41 #[.val (.int x0), .val (.int x1), .val (.int x2), .val (.int x3), .val (.int x4), .val (.int x5), .val (.int t0), .val (.ref b34), .unset, .unset, .unset, .unset, .unset, .unset, .unset, .unset, .unset] [(.ref b38)])
  refine own_go (fun _ => XS.dup X2.here hx rfl (hb hby at_41) rfl rfl) ?_
  show own_WP p e below _ T2 (mkF m 42 #[.val (.int x0), .val (.int x1), .val (.int x2), .val (.int x3), .val (.int x4), .val (.int x5), .val (.int t0), .val (.ref b34), .unset, .unset, .unset, .unset, .unset, .unset, .unset, .unset, .unset] [(.ref b38), (.ref b38)])
  refine own_go (fun _ => XS.iload X2.here hx rfl (hb hby at_42) rfl) ?_
  show own_WP p e below _ T2 (mkF m 44 #[.val (.int x0), .val (.int x1), .val (.int x2), .val (.int x3), .val (.int x4), .val (.int x5), .val (.int t0), .val (.ref b34), .unset, .unset, .unset, .unset, .unset, .unset, .unset, .unset, .unset] [(.int t0), (.ref b38), (.ref b38)])
  refine own_go (fun _ => XS.iloadN X2.here hx rfl (hb hby at_44) rfl) ?_
  show own_WP p e below _ T2 (mkF m 45 #[.val (.int x0), .val (.int x1), .val (.int x2), .val (.int x3), .val (.int x4), .val (.int x5), .val (.int t0), .val (.ref b34), .unset, .unset, .unset, .unset, .unset, .unset, .unset, .unset, .unset] [(.int x1), (.int t0), (.ref b38), (.ref b38)])
  refine own_go (fun _ => XS.iloadN X2.here hx rfl (hb hby at_45) rfl) ?_
  show own_WP p e below _ T2 (mkF m 46 #[.val (.int x0), .val (.int x1), .val (.int x2), .val (.int x3), .val (.int x4), .val (.int x5), .val (.int t0), .val (.ref b34), .unset, .unset, .unset, .unset, .unset, .unset, .unset, .unset, .unset] [(.int x2), (.int x1), (.int t0), (.ref b38), (.ref b38)])
  refine own_go (fun _ => XS.aload X2.here hx rfl (hb hby at_46) rfl rfl) ?_
  show own_WP p e below _ T2 (mkF m 48 #[.val (.int x0), .val (.int x1), .val (.int x2), .val (.int x3), .val (.int x4), .val (.int x5), .val (.int t0), .val (.ref b34), .unset, .unset, .unset, .unset, .unset, .unset, .unset, .unset, .unset] [(.ref b34), (.int x2), (.int x1), (.int t0), (.ref b38), (.ref b38)])
  refine own_go (fun _ => XS.iload X2.here hx rfl (hb hby at_48) rfl) ?_
  show own_WP p e below _ T2 (mkF m 50 #[.val (.int x0), .val (.int x1), .val (.int x2), .val (.int x3), .val (.int x4), .val (.int x5), .val (.int t0), .val (.ref b34), .unset, .unset, .unset, .unset, .unset, .unset, .unset, .unset, .unset] [(.int x4), (.ref b34), (.int x2), (.int x1), (.int t0), (.ref b38), (.ref b38)])
  obtain ⟨rr3, hf3, hv⟩ := own_bind hv
  obtain ⟨T3, v3, L3, X3, ⟨N3, K3, Q3⟩, st3⟩ := own_callN X2 C (a := b38) (argsL := [(.int t0), (.int x1), (.int x2), (.ref b34), (.int x4)]) (rm1 l Z a0 hw n0 h2 (by have q := K.1; omega) (o4 := b34) (by omega) E_b38 F_b38_type F_b38_flags F_b38_callId F_b38_body F_b38_authLength t0 x1 x2 x4 rr3 hf3) rfl (hw _ (List.mem_of_getElem? (i := 5) rfl)) (hw _ (List.mem_of_getElem? (i := 6) rfl)) (hw _ (List.mem_of_getElem? (i := 4) rfl)) (hw _ (List.mem_of_getElem? (i := 7) rfl)) (by decide) e2 (W := 1) (pc := 50) (Ls := #[.val (.int x0), .val (.int x1), .val (.int x2), .val (.int x3), .val (.int x4), .val (.int x5), .val (.int t0), .val (.ref b34), .unset, .unset, .unset, .unset, .unset, .unset, .unset, .unset, .unset]) rfl (lenOf pd1 rfl) (rest := [(.ref b38)]) (stk := [(.int x4), (.ref b34), (.int x2), (.int x1), (.int t0), (.ref b38), (.ref b38)]) rfl (Nat.le_of_ble_eq_true rfl) (hb hby at_50) (by decide) (by decide) (by decide) (by decide)
  replace N := Fr.app N N3
  replace V_b34 := V_b34.keep K3 (ninS (own_ne (by omega)) nin0)
  clear E_b38
  clear F_b38_type
  clear F_b38_flags
  clear F_b38_callId
  clear F_b38_body
  clear F_b38_authLength
  obtain ⟨rfl, E_b38, F_b38_type, F_b38_flags, F_b38_callId, F_b38_body, F_b38_authLength⟩ := Q3
  replace K := K.trans K3 (allS (Or.inr (by omega)) all0)
  refine own_go st3 ?_
  show own_WP p e below _ T3 (mkF m 53 #[.val (.int x0), .val (.int x1), .val (.int x2), .val (.int x3), .val (.int x4), .val (.int x5), .val (.int t0), .val (.ref b34), .unset, .unset, .unset, .unset, .unset, .unset, .unset, .unset, .unset] [(.ref b38)])
  refine own_go (fun _ => XS.astore X3.here hx rfl (hb hby at_53) rfl rfl (l' := #[.val (.int x0), .val (.int x1), .val (.int x2), .val (.int x3), .val (.int x4), .val (.int x5), .val (.int t0), .val (.ref b34), .val (.ref b38), .unset, .unset, .unset, .unset, .unset, .unset, .unset, .unset]) rfl) ?_
  show own_WP p e below _ T3 (mkF m 55 #[.val (.int x0), .val (.int x1), .val (.int x2), .val (.int x3), .val (.int x4), .val (.int x5), .val (.int t0), .val (.ref b34), .val (.ref b38), .unset, .unset, .unset, .unset, .unset, .unset, .unset, .unset] [])
  refine own_go (fun _ => XS.bipush X3.here hx rfl (hb hby at_55)) ?_
  show own_WP p e below _ T3 (mkF m 57 #[.val (.int x0), .val (.int x1), .val (.int x2), .val (.int x3), .val (.int x4), .val (.int x5), .val (.int t0), .val (.ref b34), .val (.ref b38), .unset, .unset, .unset, .unset, .unset, .unset, .unset, .unset] [(.int (16 : Int32))])
  refine own_go (fun _ => XS.istore X3.here hx rfl (hb hby at_57) rfl (l' := #[.val (.int x0), .val (.int x1), .val (.int x2), .val (.int x3), .val (.int x4), .val (.int x5), .val (.int t0), .val (.ref b34), .val (.ref b38), .val (.int (16 : Int32)), .unset, .unset, .unset, .unset, .unset, .unset, .unset]) rfl) ?_
  show own_WP p e below _ T3 (mkF m 59 #[.val (.int x0), .val (.int x1), .val (.int x2), .val (.int x3), .val (.int x4), .val (.int x5), .val (.int t0), .val (.ref b34), .val (.ref b38), .val (.int (16 : Int32)), .unset, .unset, .unset, .unset, .unset, .unset, .unset] [])
  refine own_go (fun _ => XS.iconst X3.here hx rfl (hb hby at_59)) ?_
  show own_WP p e below _ T3 (mkF m 60 #[.val (.int x0), .val (.int x1), .val (.int x2), .val (.int x3), .val (.int x4), .val (.int x5), .val (.int t0), .val (.ref b34), .val (.ref b38), .val (.int (16 : Int32)), .unset, .unset, .unset, .unset, .unset, .unset, .unset] [(.int (4 : Int32))])
  refine own_go (fun _ => XS.istore X3.here hx rfl (hb hby at_60) rfl (l' := #[.val (.int x0), .val (.int x1), .val (.int x2), .val (.int x3), .val (.int x4), .val (.int x5), .val (.int t0), .val (.ref b34), .val (.ref b38), .val (.int (16 : Int32)), .val (.int (4 : Int32)), .unset, .unset, .unset, .unset, .unset, .unset]) rfl) ?_
  show own_WP p e below _ T3 (mkF m 62 #[.val (.int x0), .val (.int x1), .val (.int x2), .val (.int x3), .val (.int x4), .val (.int x5), .val (.int t0), .val (.ref b34), .val (.ref b38), .val (.int (16 : Int32)), .val (.int (4 : Int32)), .unset, .unset, .unset, .unset, .unset, .unset] [])
  refine own_go (fun _ => XS.iconst X3.here hx rfl (hb hby at_62)) ?_
  show own_WP p e below _ T3 (mkF m 63 #[.val (.int x0), .val (.int x1), .val (.int x2), .val (.int x3), .val (.int x4), .val (.int x5), .val (.int t0), .val (.ref b34), .val (.ref b38), .val (.int (16 : Int32)), .val (.int (4 : Int32)), .unset, .unset, .unset, .unset, .unset, .unset] [(.int (2 : Int32))])
  refine own_go (fun _ => XS.istore X3.here hx rfl (hb hby at_63) rfl (l' := #[.val (.int x0), .val (.int x1), .val (.int x2), .val (.int x3), .val (.int x4), .val (.int x5), .val (.int t0), .val (.ref b34), .val (.ref b38), .val (.int (16 : Int32)), .val (.int (4 : Int32)), .val (.int (2 : Int32)), .unset, .unset, .unset, .unset, .unset]) rfl) ?_
  show own_WP p e below _ T3 (mkF m 65 #[.val (.int x0), .val (.int x1), .val (.int x2), .val (.int x3), .val (.int x4), .val (.int x5), .val (.int t0), .val (.ref b34), .val (.ref b38), .val (.int (16 : Int32)), .val (.int (4 : Int32)), .val (.int (2 : Int32)), .unset, .unset, .unset, .unset, .unset] [])
  refine own_go (fun _ => XS.iload X3.here hx rfl (hb hby at_65) rfl) ?_
  show own_WP p e below _ T3 (mkF m 67 #[.val (.int x0), .val (.int x1), .val (.int x2), .val (.int x3), .val (.int x4), .val (.int x5), .val (.int t0), .val (.ref b34), .val (.ref b38), .val (.int (16 : Int32)), .val (.int (4 : Int32)), .val (.int (2 : Int32)), .unset, .unset, .unset, .unset, .unset] [(.int t0)])
  by_cases h67 : t0 = (0 : Int32)
  · replace hv := (if_pos h67).symm.trans hv
    refine own_go (fun _ => XS.ifNo X3.here hx rfl (hb hby at_67) rfl (XT.i0_ne_f h67)) ?_
    show own_WP p e below _ T3 (mkF m 70 #[.val (.int x0), .val (.int x1), .val (.int x2), .val (.int x3), .val (.int x4), .val (.int x5), .val (.int t0), .val (.ref b34), .val (.ref b38), .val (.int (16 : Int32)), .val (.int (4 : Int32)), .val (.int (2 : Int32)), .unset, .unset, .unset, .unset, .unset] [])
    refine own_go (fun _ => XS.iconst X3.here hx rfl (hb hby at_70)) ?_
    show own_WP p e below _ T3 (mkF m 71 #[.val (.int x0), .val (.int x1), .val (.int x2), .val (.int x3), .val (.int x4), .val (.int x5), .val (.int t0), .val (.ref b34), .val (.ref b38), .val (.int (16 : Int32)), .val (.int (4 : Int32)), .val (.int (2 : Int32)), .unset, .unset, .unset, .unset, .unset] [(.int (2 : Int32))])
    refine own_go (fun _ => XS.istore X3.here hx rfl (hb hby at_71) rfl (l' := #[.val (.int x0), .val (.int x1), .val (.int x2), .val (.int x3), .val (.int x4), .val (.int x5), .val (.int t0), .val (.ref b34), .val (.ref b38), .val (.int (16 : Int32)), .val (.int (4 : Int32)), .val (.int (2 : Int32)), .unset, .val (.int (2 : Int32)), .unset, .unset, .unset]) rfl) ?_
    show own_WP p e below _ T3 (mkF m 73 #[.val (.int x0), .val (.int x1), .val (.int x2), .val (.int x3), .val (.int x4), .val (.int x5), .val (.int t0), .val (.ref b34), .val (.ref b38), .val (.int (16 : Int32)), .val (.int (4 : Int32)), .val (.int (2 : Int32)), .unset, .val (.int (2 : Int32)), .unset, .unset, .unset] [])
    refine own_go (fun _ => XS.iloadN X3.here hx rfl (hb hby at_73) rfl) ?_
    show own_WP p e below _ T3 (mkF m 74 #[.val (.int x0), .val (.int x1), .val (.int x2), .val (.int x3), .val (.int x4), .val (.int x5), .val (.int t0), .val (.ref b34), .val (.ref b38), .val (.int (16 : Int32)), .val (.int (4 : Int32)), .val (.int (2 : Int32)), .unset, .val (.int (2 : Int32)), .unset, .unset, .unset] [(.int x1)])
    refine own_go (fun _ => XS.sipush X3.here hx rfl (hb hby at_74)) ?_
    show own_WP p e below _ T3 (mkF m 77 #[.val (.int x0), .val (.int x1), .val (.int x2), .val (.int x3), .val (.int x4), .val (.int x5), .val (.int t0), .val (.ref b34), .val (.ref b38), .val (.int (16 : Int32)), .val (.int (4 : Int32)), .val (.int (2 : Int32)), .unset, .val (.int (2 : Int32)), .unset, .unset, .unset] [(.int (128 : Int32)), (.int x1)])
    refine own_go (fun _ => XS.iand X3.here hx rfl (hb hby at_77) rfl) ?_
    show own_WP p e below _ T3 (mkF m 78 #[.val (.int x0), .val (.int x1), .val (.int x2), .val (.int x3), .val (.int x4), .val (.int x5), .val (.int t0), .val (.ref b34), .val (.ref b38), .val (.int (16 : Int32)), .val (.int (4 : Int32)), .val (.int (2 : Int32)), .unset, .val (.int (2 : Int32)), .unset, .unset, .unset] [(.int (x1 &&& (128 : Int32)))])
    by_cases h78 : (x1 &&& (128 : Int32)) = (0 : Int32)
    · replace hv := (if_pos h78).symm.trans hv
      refine own_go (fun _ => XS.ifYes X3.here hx rfl (pc0 := 78) (pc' := 86) rfl (hb hby at_78) rfl (XT.i0_eq_t h78) (by decide) (by decide)) ?_
      show own_WP p e below _ T3 (mkF m 86 #[.val (.int x0), .val (.int x1), .val (.int x2), .val (.int x3), .val (.int x4), .val (.int x5), .val (.int t0), .val (.ref b34), .val (.ref b38), .val (.int (16 : Int32)), .val (.int (4 : Int32)), .val (.int (2 : Int32)), .unset, .val (.int (2 : Int32)), .unset, .unset, .unset] [])
      refine own_go (fun _ => XS.iconst X3.here hx rfl (hb hby at_86)) ?_
      exact b0_87 hw C Z0 rr hP X3 (rfl : T3.heap = T3.heap) N K o_b34_b38 g_b34 z_b34 V_b34 E_b38 F_b38_type F_b38_flags F_b38_callId F_b38_body F_b38_authLength x0 x1 x2 x3 x4 x5 t0 (.val (.ref b34)) (One.val rfl) (16 : Int32) (4 : Int32) (2 : Int32) (2 : Int32) (0 : Int32) hv
    · replace hv := (if_neg h78).symm.trans hv
      refine own_go (fun _ => XS.ifNo X3.here hx rfl (hb hby at_78) rfl (XT.i0_eq_f h78)) ?_
      show own_WP p e below _ T3 (mkF m 81 #[.val (.int x0), .val (.int x1), .val (.int x2), .val (.int x3), .val (.int x4), .val (.int x5), .val (.int t0), .val (.ref b34), .val (.ref b38), .val (.int (16 : Int32)), .val (.int (4 : Int32)), .val (.int (2 : Int32)), .unset, .val (.int (2 : Int32)), .unset, .unset, .unset] [])
      refine own_go (fun _ => XS.bipush X3.here hx rfl (hb hby at_81)) ?_
      show own_WP p e below _ T3 (mkF m 83 #[.val (.int x0), .val (.int x1), .val (.int x2), .val (.int x3), .val (.int x4), .val (.int x5), .val (.int t0), .val (.ref b34), .val (.ref b38), .val (.int (16 : Int32)), .val (.int (4 : Int32)), .val (.int (2 : Int32)), .unset, .val (.int (2 : Int32)), .unset, .unset, .unset] [(.int (16 : Int32))])
      refine own_go (fun _ => XS.goto X3.here hx rfl (pc0 := 83) (pc' := 87) rfl (hb hby at_83) (by decide) (by decide)) ?_
      exact b0_87 hw C Z0 rr hP X3 (rfl : T3.heap = T3.heap) N K o_b34_b38 g_b34 z_b34 V_b34 E_b38 F_b38_type F_b38_flags F_b38_callId F_b38_body F_b38_authLength x0 x1 x2 x3 x4 x5 t0 (.val (.ref b34)) (One.val rfl) (16 : Int32) (4 : Int32) (2 : Int32) (2 : Int32) (16 : Int32) hv
  · replace hv := (if_neg h67).symm.trans hv
    refine own_go (fun _ => XS.ifYes X3.here hx rfl (pc0 := 67) (pc' := 108) rfl (hb hby at_67) rfl (XT.i0_ne_t h67) (by decide) (by decide)) ?_
    show own_WP p e below _ T3 (mkF m 108 #[.val (.int x0), .val (.int x1), .val (.int x2), .val (.int x3), .val (.int x4), .val (.int x5), .val (.int t0), .val (.ref b34), .val (.ref b38), .val (.int (16 : Int32)), .val (.int (4 : Int32)), .val (.int (2 : Int32)), .unset, .unset, .unset, .unset, .unset] [])
    refine own_go (fun _ => XS.iload X3.here hx rfl (hb hby at_108) rfl) ?_
    show own_WP p e below _ T3 (mkF m 110 #[.val (.int x0), .val (.int x1), .val (.int x2), .val (.int x3), .val (.int x4), .val (.int x5), .val (.int t0), .val (.ref b34), .val (.ref b38), .val (.int (16 : Int32)), .val (.int (4 : Int32)), .val (.int (2 : Int32)), .unset, .unset, .unset, .unset, .unset] [(.int t0)])
    refine own_go (fun _ => XS.iconst X3.here hx rfl (hb hby at_110)) ?_
    show own_WP p e below _ T3 (mkF m 111 #[.val (.int x0), .val (.int x1), .val (.int x2), .val (.int x3), .val (.int x4), .val (.int x5), .val (.int t0), .val (.ref b34), .val (.ref b38), .val (.int (16 : Int32)), .val (.int (4 : Int32)), .val (.int (2 : Int32)), .unset, .unset, .unset, .unset, .unset] [(.int (2 : Int32)), (.int t0)])
    by_cases h111 : t0 = (2 : Int32)
    · replace hv := (if_pos h111).symm.trans hv
      refine own_go (fun _ => XS.icmpNo X3.here hx rfl (hb hby at_111) rfl (XT.ii_ne_f h111)) ?_
      show own_WP p e below _ T3 (mkF m 114 #[.val (.int x0), .val (.int x1), .val (.int x2), .val (.int x3), .val (.int x4), .val (.int x5), .val (.int t0), .val (.ref b34), .val (.ref b38), .val (.int (16 : Int32)), .val (.int (4 : Int32)), .val (.int (2 : Int32)), .unset, .unset, .unset, .unset, .unset] [])
      refine own_go (fun _ => XS.iconst X3.here hx rfl (hb hby at_114)) ?_
      show own_WP p e below _ T3 (mkF m 115 #[.val (.int x0), .val (.int x1), .val (.int x2), .val (.int x3), .val (.int x4), .val (.int x5), .val (.int t0), .val (.ref b34), .val (.ref b38), .val (.int (16 : Int32)), .val (.int (4 : Int32)), .val (.int (2 : Int32)), .unset, .unset, .unset, .unset, .unset] [(.int (1 : Int32))])
      refine own_go (fun _ => XS.istore X3.here hx rfl (hb hby at_115) rfl (l' := #[.val (.int x0), .val (.int x1), .val (.int x2), .val (.int x3), .val (.int x4), .val (.int x5), .val (.int t0), .val (.ref b34), .val (.ref b38), .val (.int (16 : Int32)), .val (.int (4 : Int32)), .val (.int (2 : Int32)), .unset, .val (.int (1 : Int32)), .unset, .unset, .unset]) rfl) ?_
      show own_WP p e below _ T3 (mkF m 117 #[.val (.int x0), .val (.int x1), .val (.int x2), .val (.int x3), .val (.int x4), .val (.int x5), .val (.int t0), .val (.ref b34), .val (.ref b38), .val (.int (16 : Int32)), .val (.int (4 : Int32)), .val (.int (2 : Int32)), .unset, .val (.int (1 : Int32)), .unset, .unset, .unset] [])
      refine own_go (fun _ => XS.iconst X3.here hx rfl (hb hby at_117)) ?_
      show own_WP p e below _ T3 (mkF m 118 #[.val (.int x0), .val (.int x1), .val (.int x2), .val (.int x3), .val (.int x4), .val (.int x5), .val (.int t0), .val (.ref b34), .val (.ref b38), .val (.int (16 : Int32)), .val (.int (4 : Int32)), .val (.int (2 : Int32)), .unset, .val (.int (1 : Int32)), .unset, .unset, .unset] [(.int (1 : Int32))])
      refine own_go (fun _ => XS.istore X3.here hx rfl (hb hby at_118) rfl (l' := #[.val (.int x0), .val (.int x1), .val (.int x2), .val (.int x3), .val (.int x4), .val (.int x5), .val (.int t0), .val (.ref b34), .val (.ref b38), .val (.int (16 : Int32)), .val (.int (4 : Int32)), .val (.int (2 : Int32)), .unset, .val (.int (1 : Int32)), .val (.int (1 : Int32)), .unset, .unset]) rfl) ?_
      show own_WP p e below _ T3 (mkF m 120 #[.val (.int x0), .val (.int x1), .val (.int x2), .val (.int x3), .val (.int x4), .val (.int x5), .val (.int t0), .val (.ref b34), .val (.ref b38), .val (.int (16 : Int32)), .val (.int (4 : Int32)), .val (.int (2 : Int32)), .unset, .val (.int (1 : Int32)), .val (.int (1 : Int32)), .unset, .unset] [])
      refine own_go (fun _ => XS.iload X3.here hx rfl (hb hby at_120) rfl) ?_
      show own_WP p e below _ T3 (mkF m 122 #[.val (.int x0), .val (.int x1), .val (.int x2), .val (.int x3), .val (.int x4), .val (.int x5), .val (.int t0), .val (.ref b34), .val (.ref b38), .val (.int (16 : Int32)), .val (.int (4 : Int32)), .val (.int (2 : Int32)), .unset, .val (.int (1 : Int32)), .val (.int (1 : Int32)), .unset, .unset] [(.int (16 : Int32))])
      refine own_go (fun _ => XS.iload X3.here hx rfl (hb hby at_122) rfl) ?_
      show own_WP p e below _ T3 (mkF m 124 #[.val (.int x0), .val (.int x1), .val (.int x2), .val (.int x3), .val (.int x4), .val (.int x5), .val (.int t0), .val (.ref b34), .val (.ref b38), .val (.int (16 : Int32)), .val (.int (4 : Int32)), .val (.int (2 : Int32)), .unset, .val (.int (1 : Int32)), .val (.int (1 : Int32)), .unset, .unset] [(.int (4 : Int32)), (.int (16 : Int32))])
      refine own_go (fun _ => XS.iadd X3.here hx rfl (hb hby at_124) rfl) ?_
      show own_WP p e below _ T3 (mkF m 125 #[.val (.int x0), .val (.int x1), .val (.int x2), .val (.int x3), .val (.int x4), .val (.int x5), .val (.int t0), .val (.ref b34), .val (.ref b38), .val (.int (16 : Int32)), .val (.int (4 : Int32)), .val (.int (2 : Int32)), .unset, .val (.int (1 : Int32)), .val (.int (1 : Int32)), .unset, .unset] [(.int ((16 : Int32) + (4 : Int32)))])
      refine own_go (fun _ => XS.iload X3.here hx rfl (hb hby at_125) rfl) ?_
      show own_WP p e below _ T3 (mkF m 127 #[.val (.int x0), .val (.int x1), .val (.int x2), .val (.int x3), .val (.int x4), .val (.int x5), .val (.int t0), .val (.ref b34), .val (.ref b38), .val (.int (16 : Int32)), .val (.int (4 : Int32)), .val (.int (2 : Int32)), .unset, .val (.int (1 : Int32)), .val (.int (1 : Int32)), .unset, .unset] [(.int (2 : Int32)), (.int ((16 : Int32) + (4 : Int32)))])
      refine own_go (fun _ => XS.iadd X3.here hx rfl (hb hby at_127) rfl) ?_
      show own_WP p e below _ T3 (mkF m 128 #[.val (.int x0), .val (.int x1), .val (.int x2), .val (.int x3), .val (.int x4), .val (.int x5), .val (.int t0), .val (.ref b34), .val (.ref b38), .val (.int (16 : Int32)), .val (.int (4 : Int32)), .val (.int (2 : Int32)), .unset, .val (.int (1 : Int32)), .val (.int (1 : Int32)), .unset, .unset] [(.int (((16 : Int32) + (4 : Int32)) + (2 : Int32)))])
      refine own_go (fun _ => XS.iload X3.here hx rfl (hb hby at_128) rfl) ?_
      show own_WP p e below _ T3 (mkF m 130 #[.val (.int x0), .val (.int x1), .val (.int x2), .val (.int x3), .val (.int x4), .val (.int x5), .val (.int t0), .val (.ref b34), .val (.ref b38), .val (.int (16 : Int32)), .val (.int (4 : Int32)), .val (.int (2 : Int32)), .unset, .val (.int (1 : Int32)), .val (.int (1 : Int32)), .unset, .unset] [(.int (1 : Int32)), (.int (((16 : Int32) + (4 : Int32)) + (2 : Int32)))])
      refine own_go (fun _ => XS.iadd X3.here hx rfl (hb hby at_130) rfl) ?_
      show own_WP p e below _ T3 (mkF m 131 #[.val (.int x0), .val (.int x1), .val (.int x2), .val (.int x3), .val (.int x4), .val (.int x5), .val (.int t0), .val (.ref b34), .val (.ref b38), .val (.int (16 : Int32)), .val (.int (4 : Int32)), .val (.int (2 : Int32)), .unset, .val (.int (1 : Int32)), .val (.int (1 : Int32)), .unset, .unset] [(.int ((((16 : Int32) + (4 : Int32)) + (2 : Int32)) + (1 : Int32)))])
      refine own_go (fun _ => XS.iload X3.here hx rfl (hb hby at_131) rfl) ?_
      show own_WP p e below _ T3 (mkF m 133 #[.val (.int x0), .val (.int x1), .val (.int x2), .val (.int x3), .val (.int x4), .val (.int x5), .val (.int t0), .val (.ref b34), .val (.ref b38), .val (.int (16 : Int32)), .val (.int (4 : Int32)), .val (.int (2 : Int32)), .unset, .val (.int (1 : Int32)), .val (.int (1 : Int32)), .unset, .unset] [(.int (1 : Int32)), (.int ((((16 : Int32) + (4 : Int32)) + (2 : Int32)) + (1 : Int32)))])
      refine own_go (fun _ => XS.iadd X3.here hx rfl (hb hby at_133) rfl) ?_
      show own_WP p e below _ T3 (mkF m 134 #[.val (.int x0), .val (.int x1), .val (.int x2), .val (.int x3), .val (.int x4), .val (.int x5), .val (.int t0), .val (.ref b34), .val (.ref b38), .val (.int (16 : Int32)), .val (.int (4 : Int32)), .val (.int (2 : Int32)), .unset, .val (.int (1 : Int32)), .val (.int (1 : Int32)), .unset, .unset] [(.int (((((16 : Int32) + (4 : Int32)) + (2 : Int32)) + (1 : Int32)) + (1 : Int32)))])
      generalize (((((16 : Int32) + (4 : Int32)) + (2 : Int32)) + (1 : Int32)) + (1 : Int32)) = y5 at hv ⊢
      replace hv := own_letE hv
      show own_WP p e below _ T3 (mkF m 134 #[.val (.int x0), .val (.int x1), .val (.int x2), .val (.int x3), .val (.int x4), .val (.int x5), .val (.int t0), .val (.ref b34), .val (.ref b38), .val (.int (16 : Int32)), .val (.int (4 : Int32)), .val (.int (2 : Int32)), .unset, .val (.int (1 : Int32)), .val (.int (1 : Int32)), .unset, .unset] [(.int y5)])
      refine own_go (fun _ => XS.istore X3.here hx rfl (hb hby at_134) rfl (l' := #[.val (.int x0), .val (.int x1), .val (.int x2), .val (.int x3), .val (.int x4), .val (.int x5), .val (.int t0), .val (.ref b34), .val (.ref b38), .val (.int (16 : Int32)), .val (.int (4 : Int32)), .val (.int (2 : Int32)), .val (.int y5), .val (.int (1 : Int32)), .val (.int (1 : Int32)), .unset, .unset]) rfl) ?_
      show own_WP p e below _ T3 (mkF m 136 #[.val (.int x0), .val (.int x1), .val (.int x2), .val (.int x3), .val (.int x4), .val (.int x5), .val (.int t0), .val (.ref b34), .val (.ref b38), .val (.int (16 : Int32)), .val (.int (4 : Int32)), .val (.int (2 : Int32)), .val (.int y5), .val (.int (1 : Int32)), .val (.int (1 : Int32)), .unset, .unset] [])
      refine own_go (fun _ => XS.goto X3.here hx rfl (pc0 := 136) (pc' := 173) rfl (hb hby at_136) (by decide) (by decide)) ?_
      exact b0_173 hw C Z0 rr hP X3 (rfl : T3.heap = T3.heap) N K o_b34_b38 g_b34 z_b34 V_b34 E_b38 F_b38_type F_b38_flags F_b38_callId F_b38_body F_b38_authLength x0 x1 x2 x3 x4 x5 t0 (.val (.ref b34)) (One.val rfl) (16 : Int32) (4 : Int32) (2 : Int32) y5 (1 : Int32) (1 : Int32) (.unset) One.u (.unset) One.u hv
    · replace hv := (if_neg h111).symm.trans hv
      refine own_go (fun _ => XS.icmpYes X3.here hx rfl (pc0 := 111) (pc' := 139) rfl (hb hby at_111) rfl (XT.ii_ne_t h111) (by decide) (by decide)) ?_
      show own_WP p e below _ T3 (mkF m 139 #[.val (.int x0), .val (.int x1), .val (.int x2), .val (.int x3), .val (.int x4), .val (.int x5), .val (.int t0), .val (.ref b34), .val (.ref b38), .val (.int (16 : Int32)), .val (.int (4 : Int32)), .val (.int (2 : Int32)), .unset, .unset, .unset, .unset, .unset] [])
      refine own_go (fun _ => XS.iconst X3.here hx rfl (hb hby at_139)) ?_
      show own_WP p e below _ T3 (mkF m 140 #[.val (.int x0), .val (.int x1), .val (.int x2), .val (.int x3), .val (.int x4), .val (.int x5), .val (.int t0), .val (.ref b34), .val (.ref b38), .val (.int (16 : Int32)), .val (.int (4 : Int32)), .val (.int (2 : Int32)), .unset, .unset, .unset, .unset, .unset] [(.int (1 : Int32))])
      refine own_go (fun _ => XS.istore X3.here hx rfl (hb hby at_140) rfl (l' := #[.val (.int x0), .val (.int x1), .val (.int x2), .val (.int x3), .val (.int x4), .val (.int x5), .val (.int t0), .val (.ref b34), .val (.ref b38), .val (.int (16 : Int32)), .val (.int (4 : Int32)), .val (.int (2 : Int32)), .unset, .val (.int (1 : Int32)), .unset, .unset, .unset]) rfl) ?_
      show own_WP p e below _ T3 (mkF m 142 #[.val (.int x0), .val (.int x1), .val (.int x2), .val (.int x3), .val (.int x4), .val (.int x5), .val (.int t0), .val (.ref b34), .val (.ref b38), .val (.int (16 : Int32)), .val (.int (4 : Int32)), .val (.int (2 : Int32)), .unset, .val (.int (1 : Int32)), .unset, .unset, .unset] [])
      refine own_go (fun _ => XS.iconst X3.here hx rfl (hb hby at_142)) ?_
      show own_WP p e below _ T3 (mkF m 143 #[.val (.int x0), .val (.int x1), .val (.int x2), .val (.int x3), .val (.int x4), .val (.int x5), .val (.int t0), .val (.ref b34), .val (.ref b38), .val (.int (16 : Int32)), .val (.int (4 : Int32)), .val (.int (2 : Int32)), .unset, .val (.int (1 : Int32)), .unset, .unset, .unset] [(.int (1 : Int32))])
      refine own_go (fun _ => XS.istore X3.here hx rfl (hb hby at_143) rfl (l' := #[.val (.int x0), .val (.int x1), .val (.int x2), .val (.int x3), .val (.int x4), .val (.int x5), .val (.int t0), .val (.ref b34), .val (.ref b38), .val (.int (16 : Int32)), .val (.int (4 : Int32)), .val (.int (2 : Int32)), .unset, .val (.int (1 : Int32)), .val (.int (1 : Int32)), .unset, .unset]) rfl) ?_
      show own_WP p e below _ T3 (mkF m 145 #[.val (.int x0), .val (.int x1), .val (.int x2), .val (.int x3), .val (.int x4), .val (.int x5), .val (.int t0), .val (.ref b34), .val (.ref b38), .val (.int (16 : Int32)), .val (.int (4 : Int32)), .val (.int (2 : Int32)), .unset, .val (.int (1 : Int32)), .val (.int (1 : Int32)), .unset, .unset] [])
      refine own_go (fun _ => XS.iconst X3.here hx rfl (hb hby at_145)) ?_
      show own_WP p e below _ T3 (mkF m 146 #[.val (.int x0), .val (.int x1), .val (.int x2), .val (.int x3), .val (.int x4), .val (.int x5), .val (.int t0), .val (.ref b34), .val (.ref b38), .val (.int (16 : Int32)), .val (.int (4 : Int32)), .val (.int (2 : Int32)), .unset, .val (.int (1 : Int32)), .val (.int (1 : Int32)), .unset, .unset] [(.int (4 : Int32))])
      refine own_go (fun _ => XS.istore X3.here hx rfl (hb hby at_146) rfl (l' := #[.val (.int x0), .val (.int x1), .val (.int x2), .val (.int x3), .val (.int x4), .val (.int x5), .val (.int t0), .val (.ref b34), .val (.ref b38), .val (.int (16 : Int32)), .val (.int (4 : Int32)), .val (.int (2 : Int32)), .unset, .val (.int (1 : Int32)), .val (.int (1 : Int32)), .val (.int (4 : Int32)), .unset]) rfl) ?_
      show own_WP p e below _ T3 (mkF m 148 #[.val (.int x0), .val (.int x1), .val (.int x2), .val (.int x3), .val (.int x4), .val (.int x5), .val (.int t0), .val (.ref b34), .val (.ref b38), .val (.int (16 : Int32)), .val (.int (4 : Int32)), .val (.int (2 : Int32)), .unset, .val (.int (1 : Int32)), .val (.int (1 : Int32)), .val (.int (4 : Int32)), .unset] [])
      refine own_go (fun _ => XS.iconst X3.here hx rfl (hb hby at_148)) ?_
      show own_WP p e below _ T3 (mkF m 149 #[.val (.int x0), .val (.int x1), .val (.int x2), .val (.int x3), .val (.int x4), .val (.int x5), .val (.int t0), .val (.ref b34), .val (.ref b38), .val (.int (16 : Int32)), .val (.int (4 : Int32)), .val (.int (2 : Int32)), .unset, .val (.int (1 : Int32)), .val (.int (1 : Int32)), .val (.int (4 : Int32)), .unset] [(.int (4 : Int32))])
      refine own_go (fun _ => XS.istore X3.here hx rfl (hb hby at_149) rfl (l' := #[.val (.int x0), .val (.int x1), .val (.int x2), .val (.int x3), .val (.int x4), .val (.int x5), .val (.int t0), .val (.ref b34), .val (.ref b38), .val (.int (16 : Int32)), .val (.int (4 : Int32)), .val (.int (2 : Int32)), .unset, .val (.int (1 : Int32)), .val (.int (1 : Int32)), .val (.int (4 : Int32)), .val (.int (4 : Int32))]) rfl) ?_
      show own_WP p e below _ T3 (mkF m 151 #[.val (.int x0), .val (.int x1), .val (.int x2), .val (.int x3), .val (.int x4), .val (.int x5), .val (.int t0), .val (.ref b34), .val (.ref b38), .val (.int (16 : Int32)), .val (.int (4 : Int32)), .val (.int (2 : Int32)), .unset, .val (.int (1 : Int32)), .val (.int (1 : Int32)), .val (.int (4 : Int32)), .val (.int (4 : Int32))] [])
      refine own_go (fun _ => XS.iload X3.here hx rfl (hb hby at_151) rfl) ?_
      show own_WP p e below _ T3 (mkF m 153 #[.val (.int x0), .val (.int x1), .val (.int x2), .val (.int x3), .val (.int x4), .val (.int x5), .val (.int t0), .val (.ref b34), .val (.ref b38), .val (.int (16 : Int32)), .val (.int (4 : Int32)), .val (.int (2 : Int32)), .unset, .val (.int (1 : Int32)), .val (.int (1 : Int32)), .val (.int (4 : Int32)), .val (.int (4 : Int32))] [(.int (16 : Int32))])
      refine own_go (fun _ => XS.iload X3.here hx rfl (hb hby at_153) rfl) ?_
      show own_WP p e below _ T3 (mkF m 155 #[.val (.int x0), .val (.int x1), .val (.int x2), .val (.int x3), .val (.int x4), .val (.int x5), .val (.int t0), .val (.ref b34), .val (.ref b38), .val (.int (16 : Int32)), .val (.int (4 : Int32)), .val (.int (2 : Int32)), .unset, .val (.int (1 : Int32)), .val (.int (1 : Int32)), .val (.int (4 : Int32)), .val (.int (4 : Int32))] [(.int (4 : Int32)), (.int (16 : Int32))])
      refine own_go (fun _ => XS.iadd X3.here hx rfl (hb hby at_155) rfl) ?_
      show own_WP p e below _ T3 (mkF m 156 #[.val (.int x0), .val (.int x1), .val (.int x2), .val (.int x3), .val (.int x4), .val (.int x5), .val (.int t0), .val (.ref b34), .val (.ref b38), .val (.int (16 : Int32)), .val (.int (4 : Int32)), .val (.int (2 : Int32)), .unset, .val (.int (1 : Int32)), .val (.int (1 : Int32)), .val (.int (4 : Int32)), .val (.int (4 : Int32))] [(.int ((16 : Int32) + (4 : Int32)))])
      refine own_go (fun _ => XS.iload X3.here hx rfl (hb hby at_156) rfl) ?_
      show own_WP p e below _ T3 (mkF m 158 #[.val (.int x0), .val (.int x1), .val (.int x2), .val (.int x3), .val (.int x4), .val (.int x5), .val (.int t0), .val (.ref b34), .val (.ref b38), .val (.int (16 : Int32)), .val (.int (4 : Int32)), .val (.int (2 : Int32)), .unset, .val (.int (1 : Int32)), .val (.int (1 : Int32)), .val (.int (4 : Int32)), .val (.int (4 : Int32))] [(.int (2 : Int32)), (.int ((16 : Int32) + (4 : Int32)))])
      refine own_go (fun _ => XS.iadd X3.here hx rfl (hb hby at_158) rfl) ?_
      show own_WP p e below _ T3 (mkF m 159 #[.val (.int x0), .val (.int x1), .val (.int x2), .val (.int x3), .val (.int x4), .val (.int x5), .val (.int t0), .val (.ref b34), .val (.ref b38), .val (.int (16 : Int32)), .val (.int (4 : Int32)), .val (.int (2 : Int32)), .unset, .val (.int (1 : Int32)), .val (.int (1 : Int32)), .val (.int (4 : Int32)), .val (.int (4 : Int32))] [(.int (((16 : Int32) + (4 : Int32)) + (2 : Int32)))])
      refine own_go (fun _ => XS.iload X3.here hx rfl (hb hby at_159) rfl) ?_
      show own_WP p e below _ T3 (mkF m 161 #[.val (.int x0), .val (.int x1), .val (.int x2), .val (.int x3), .val (.int x4), .val (.int x5), .val (.int t0), .val (.ref b34), .val (.ref b38), .val (.int (16 : Int32)), .val (.int (4 : Int32)), .val (.int (2 : Int32)), .unset, .val (.int (1 : Int32)), .val (.int (1 : Int32)), .val (.int (4 : Int32)), .val (.int (4 : Int32))] [(.int (1 : Int32)), (.int (((16 : Int32) + (4 : Int32)) + (2 : Int32)))])
      refine own_go (fun _ => XS.iadd X3.here hx rfl (hb hby at_161) rfl) ?_
      show own_WP p e below _ T3 (mkF m 162 #[.val (.int x0), .val (.int x1), .val (.int x2), .val (.int x3), .val (.int x4), .val (.int x5), .val (.int t0), .val (.ref b34), .val (.ref b38), .val (.int (16 : Int32)), .val (.int (4 : Int32)), .val (.int (2 : Int32)), .unset, .val (.int (1 : Int32)), .val (.int (1 : Int32)), .val (.int (4 : Int32)), .val (.int (4 : Int32))] [(.int ((((16 : Int32) + (4 : Int32)) + (2 : Int32)) + (1 : Int32)))])
      refine own_go (fun _ => XS.iload X3.here hx rfl (hb hby at_162) rfl) ?_
      show own_WP p e below _ T3 (mkF m 164 #[.val (.int x0), .val (.int x1), .val (.int x2), .val (.int x3), .val (.int x4), .val (.int x5), .val (.int t0), .val (.ref b34), .val (.ref b38), .val (.int (16 : Int32)), .val (.int (4 : Int32)), .val (.int (2 : Int32)), .unset, .val (.int (1 : Int32)), .val (.int (1 : Int32)), .val (.int (4 : Int32)), .val (.int (4 : Int32))] [(.int (1 : Int32)), (.int ((((16 : Int32) + (4 : Int32)) + (2 : Int32)) + (1 : Int32)))])
      refine own_go (fun _ => XS.iadd X3.here hx rfl (hb hby at_164) rfl) ?_
      show own_WP p e below _ T3 (mkF m 165 #[.val (.int x0), .val (.int x1), .val (.int x2), .val (.int x3), .val (.int x4), .val (.int x5), .val (.int t0), .val (.ref b34), .val (.ref b38), .val (.int (16 : Int32)), .val (.int (4 : Int32)), .val (.int (2 : Int32)), .unset, .val (.int (1 : Int32)), .val (.int (1 : Int32)), .val (.int (4 : Int32)), .val (.int (4 : Int32))] [(.int (((((16 : Int32) + (4 : Int32)) + (2 : Int32)) + (1 : Int32)) + (1 : Int32)))])
      refine own_go (fun _ => XS.iload X3.here hx rfl (hb hby at_165) rfl) ?_
      show own_WP p e below _ T3 (mkF m 167 #[.val (.int x0), .val (.int x1), .val (.int x2), .val (.int x3), .val (.int x4), .val (.int x5), .val (.int t0), .val (.ref b34), .val (.ref b38), .val (.int (16 : Int32)), .val (.int (4 : Int32)), .val (.int (2 : Int32)), .unset, .val (.int (1 : Int32)), .val (.int (1 : Int32)), .val (.int (4 : Int32)), .val (.int (4 : Int32))] [(.int (4 : Int32)), (.int (((((16 : Int32) + (4 : Int32)) + (2 : Int32)) + (1 : Int32)) + (1 : Int32)))])
      refine own_go (fun _ => XS.iadd X3.here hx rfl (hb hby at_167) rfl) ?_
      show own_WP p e below _ T3 (mkF m 168 #[.val (.int x0), .val (.int x1), .val (.int x2), .val (.int x3), .val (.int x4), .val (.int x5), .val (.int t0), .val (.ref b34), .val (.ref b38), .val (.int (16 : Int32)), .val (.int (4 : Int32)), .val (.int (2 : Int32)), .unset, .val (.int (1 : Int32)), .val (.int (1 : Int32)), .val (.int (4 : Int32)), .val (.int (4 : Int32))] [(.int ((((((16 : Int32) + (4 : Int32)) + (2 : Int32)) + (1 : Int32)) + (1 : Int32)) + (4 : Int32)))])
      refine own_go (fun _ => XS.iload X3.here hx rfl (hb hby at_168) rfl) ?_
      show own_WP p e below _ T3 (mkF m 170 #[.val (.int x0), .val (.int x1), .val (.int x2), .val (.int x3), .val (.int x4), .val (.int x5), .val (.int t0), .val (.ref b34), .val (.ref b38), .val (.int (16 : Int32)), .val (.int (4 : Int32)), .val (.int (2 : Int32)), .unset, .val (.int (1 : Int32)), .val (.int (1 : Int32)), .val (.int (4 : Int32)), .val (.int (4 : Int32))] [(.int (4 : Int32)), (.int ((((((16 : Int32) + (4 : Int32)) + (2 : Int32)) + (1 : Int32)) + (1 : Int32)) + (4 : Int32)))])
      refine own_go (fun _ => XS.iadd X3.here hx rfl (hb hby at_170) rfl) ?_
      show own_WP p e below _ T3 (mkF m 171 #[.val (.int x0), .val (.int x1), .val (.int x2), .val (.int x3), .val (.int x4), .val (.int x5), .val (.int t0), .val (.ref b34), .val (.ref b38), .val (.int (16 : Int32)), .val (.int (4 : Int32)), .val (.int (2 : Int32)), .unset, .val (.int (1 : Int32)), .val (.int (1 : Int32)), .val (.int (4 : Int32)), .val (.int (4 : Int32))] [(.int (((((((16 : Int32) + (4 : Int32)) + (2 : Int32)) + (1 : Int32)) + (1 : Int32)) + (4 : Int32)) + (4 : Int32)))])
      generalize (((((((16 : Int32) + (4 : Int32)) + (2 : Int32)) + (1 : Int32)) + (1 : Int32)) + (4 : Int32)) + (4 : Int32)) = y6 at hv ⊢
      replace hv := own_letE hv
      show own_WP p e below _ T3 (mkF m 171 #[.val (.int x0), .val (.int x1), .val (.int x2), .val (.int x3), .val (.int x4), .val (.int x5), .val (.int t0), .val (.ref b34), .val (.ref b38), .val (.int (16 : Int32)), .val (.int (4 : Int32)), .val (.int (2 : Int32)), .unset, .val (.int (1 : Int32)), .val (.int (1 : Int32)), .val (.int (4 : Int32)), .val (.int (4 : Int32))] [(.int y6)])
      refine own_go (fun _ => XS.istore X3.here hx rfl (hb hby at_171) rfl (l' := #[.val (.int x0), .val (.int x1), .val (.int x2), .val (.int x3), .val (.int x4), .val (.int x5), .val (.int t0), .val (.ref b34), .val (.ref b38), .val (.int (16 : Int32)), .val (.int (4 : Int32)), .val (.int (2 : Int32)), .val (.int y6), .val (.int (1 : Int32)), .val (.int (1 : Int32)), .val (.int (4 : Int32)), .val (.int (4 : Int32))]) rfl) ?_
      exact b0_173 hw C Z0 rr hP X3 (rfl : T3.heap = T3.heap) N K o_b34_b38 g_b34 z_b34 V_b34 E_b38 F_b38_type F_b38_flags F_b38_callId F_b38_body F_b38_authLength x0 x1 x2 x3 x4 x5 t0 (.val (.ref b34)) (One.val rfl) (16 : Int32) (4 : Int32) (2 : Int32) y6 (1 : Int32) (1 : Int32) (.val (.int (4 : Int32))) (One.val rfl) (.val (.int (4 : Int32))) (One.val rfl) hv
def f0_0 (x0 : Int32) (x1 : Int32) (x2 : Int32) (x3 : Int32) (x4 : Int32) : Option (Int32) := (if ((x0 &&& (2147483647 : Int32)) % (3 : Int32)) = (0 : Int32) then (f0_28 x1 x2 x3 x4 (0 : Int32)) else (if ((x0 &&& (2147483647 : Int32)) % (3 : Int32)) = (1 : Int32) then (f0_28 x1 x2 x3 x4 (2 : Int32)) else (f0_28 x1 x2 x3 x4 (3 : Int32))))
set_option maxRecDepth 65536 in
set_option maxHeartbeats 40000000 in
theorem b0_0 {p : Program} {l : Launch} {e : Env} {s : State} {m : MethodId} {args : Array Value} {below : List Frame} {meth : Method} {c : Code} {Z : State} {a0 : Array Value} {h0 : Heap} {n0 : Nat} {P : Option Value → Heap → List Loc → Prop} (hw : ∀ d ∈ tables_1, d.before a0 Z = true) (C : own_Ctx p s m meth c Z x code maxLocals ret) (Z0 : n0 ≤ h0.size)   (rr : Int32) (hP : ∀ v h L, Fr n0 L → Keep h0 h [] → E0 Z h0  rr v h → P v h L)
    {T : State} {locs : List Loc} {h : Heap} (X : Stand p l e room_1 s m args below meth c T locs 0 0) (e0 : T.heap = h) (N : Fr n0 locs) (K : Keep h0 h []) (x0 : Int32) (x1 : Int32) (x2 : Int32) (x3 : Int32) (x4 : Int32) (hv : f0_0 x0 x1 x2 x3 x4 = some rr) :
    own_WP p e below (own_Q s P room_1.cells room_1.slots) T (mkF m 0 #[.val (.int x0), .val (.int x1), .val (.int x2), .val (.int x3), .val (.int x4), .unset, .unset, .unset, .unset, .unset, .unset, .unset, .unset, .unset, .unset, .unset, .unset] []) := by
  obtain ⟨hx, hZ, hby, hml, hown, hnm, hret, hlk⟩ := id C
  replace hown : s.vm.findClass "com/example/objwire/objwire/rpc/PduSealedFromPinLaw" = some m.cls := hown
  unfold f0_0 at hv
  show own_WP p e below _ T (mkF m 0 #[.val (.int x0), .val (.int x1), .val (.int x2), .val (.int x3), .val (.int x4), .unset, .unset, .unset, .unset, .unset, .unset, .unset, .unset, .unset, .unset, .unset, .unset] [])
  refine own_go (fun _ => XS.iloadN X.here hx rfl (hb hby at_0) rfl) ?_
  show own_WP p e below _ T (mkF m 1 #[.val (.int x0), .val (.int x1), .val (.int x2), .val (.int x3), .val (.int x4), .unset, .unset, .unset, .unset, .unset, .unset, .unset, .unset, .unset, .unset, .unset, .unset] [(.int x0)])
  refine own_go (X.ldcInt hx hown (mvT hZ (hw _ (List.mem_of_getElem? (i := 0) rfl))) (g := (mkF m 1 #[.val (.int x0), .val (.int x1), .val (.int x2), .val (.int x3), .val (.int x4), .unset, .unset, .unset, .unset, .unset, .unset, .unset, .unset, .unset, .unset, .unset, .unset] [(.int x0)])) rfl (hb hby at_1)) ?_
  show own_WP p e below _ T (mkF m 3 #[.val (.int x0), .val (.int x1), .val (.int x2), .val (.int x3), .val (.int x4), .unset, .unset, .unset, .unset, .unset, .unset, .unset, .unset, .unset, .unset, .unset, .unset] [(.int (2147483647 : Int32)), (.int x0)])
  refine own_go (fun _ => XS.iand X.here hx rfl (hb hby at_3) rfl) ?_
  show own_WP p e below _ T (mkF m 4 #[.val (.int x0), .val (.int x1), .val (.int x2), .val (.int x3), .val (.int x4), .unset, .unset, .unset, .unset, .unset, .unset, .unset, .unset, .unset, .unset, .unset, .unset] [(.int (x0 &&& (2147483647 : Int32)))])
  refine own_go (fun _ => XS.iconst X.here hx rfl (hb hby at_4)) ?_
  show own_WP p e below _ T (mkF m 5 #[.val (.int x0), .val (.int x1), .val (.int x2), .val (.int x3), .val (.int x4), .unset, .unset, .unset, .unset, .unset, .unset, .unset, .unset, .unset, .unset, .unset, .unset] [(.int (3 : Int32)), (.int (x0 &&& (2147483647 : Int32)))])
  refine own_go (fun _ => iremM X hx rfl (hb hby at_5) rfl (by decide)) ?_
  show own_WP p e below _ T (mkF m 6 #[.val (.int x0), .val (.int x1), .val (.int x2), .val (.int x3), .val (.int x4), .unset, .unset, .unset, .unset, .unset, .unset, .unset, .unset, .unset, .unset, .unset, .unset] [(.int ((x0 &&& (2147483647 : Int32)) % (3 : Int32)))])
  refine own_go (fun _ => XS.istore X.here hx rfl (hb hby at_6) rfl (l' := #[.val (.int x0), .val (.int x1), .val (.int x2), .val (.int x3), .val (.int x4), .val (.int ((x0 &&& (2147483647 : Int32)) % (3 : Int32))), .unset, .unset, .unset, .unset, .unset, .unset, .unset, .unset, .unset, .unset, .unset]) rfl) ?_
  show own_WP p e below _ T (mkF m 8 #[.val (.int x0), .val (.int x1), .val (.int x2), .val (.int x3), .val (.int x4), .val (.int ((x0 &&& (2147483647 : Int32)) % (3 : Int32))), .unset, .unset, .unset, .unset, .unset, .unset, .unset, .unset, .unset, .unset, .unset] [])
  refine own_go (fun _ => XS.iload X.here hx rfl (hb hby at_8) rfl) ?_
  show own_WP p e below _ T (mkF m 10 #[.val (.int x0), .val (.int x1), .val (.int x2), .val (.int x3), .val (.int x4), .val (.int ((x0 &&& (2147483647 : Int32)) % (3 : Int32))), .unset, .unset, .unset, .unset, .unset, .unset, .unset, .unset, .unset, .unset, .unset] [(.int ((x0 &&& (2147483647 : Int32)) % (3 : Int32)))])
  by_cases h10 : ((x0 &&& (2147483647 : Int32)) % (3 : Int32)) = (0 : Int32)
  · replace hv := (if_pos h10).symm.trans hv
    refine own_go (fun _ => XS.ifNo X.here hx rfl (hb hby at_10) rfl (XT.i0_ne_f h10)) ?_
    show own_WP p e below _ T (mkF m 13 #[.val (.int x0), .val (.int x1), .val (.int x2), .val (.int x3), .val (.int x4), .val (.int ((x0 &&& (2147483647 : Int32)) % (3 : Int32))), .unset, .unset, .unset, .unset, .unset, .unset, .unset, .unset, .unset, .unset, .unset] [])
    refine own_go (fun _ => XS.iconst X.here hx rfl (hb hby at_13)) ?_
    show own_WP p e below _ T (mkF m 14 #[.val (.int x0), .val (.int x1), .val (.int x2), .val (.int x3), .val (.int x4), .val (.int ((x0 &&& (2147483647 : Int32)) % (3 : Int32))), .unset, .unset, .unset, .unset, .unset, .unset, .unset, .unset, .unset, .unset, .unset] [(.int (0 : Int32))])
    refine own_go (fun _ => XS.goto X.here hx rfl (pc0 := 14) (pc' := 28) rfl (hb hby at_14) (by decide) (by decide)) ?_
    exact b0_28 hw C Z0 rr hP X e0 N K x0 x1 x2 x3 x4 ((x0 &&& (2147483647 : Int32)) % (3 : Int32)) (0 : Int32) hv
  · replace hv := (if_neg h10).symm.trans hv
    refine own_go (fun _ => XS.ifYes X.here hx rfl (pc0 := 10) (pc' := 17) rfl (hb hby at_10) rfl (XT.i0_ne_t h10) (by decide) (by decide)) ?_
    show own_WP p e below _ T (mkF m 17 #[.val (.int x0), .val (.int x1), .val (.int x2), .val (.int x3), .val (.int x4), .val (.int ((x0 &&& (2147483647 : Int32)) % (3 : Int32))), .unset, .unset, .unset, .unset, .unset, .unset, .unset, .unset, .unset, .unset, .unset] [])
    refine own_go (fun _ => XS.iload X.here hx rfl (hb hby at_17) rfl) ?_
    show own_WP p e below _ T (mkF m 19 #[.val (.int x0), .val (.int x1), .val (.int x2), .val (.int x3), .val (.int x4), .val (.int ((x0 &&& (2147483647 : Int32)) % (3 : Int32))), .unset, .unset, .unset, .unset, .unset, .unset, .unset, .unset, .unset, .unset, .unset] [(.int ((x0 &&& (2147483647 : Int32)) % (3 : Int32)))])
    refine own_go (fun _ => XS.iconst X.here hx rfl (hb hby at_19)) ?_
    show own_WP p e below _ T (mkF m 20 #[.val (.int x0), .val (.int x1), .val (.int x2), .val (.int x3), .val (.int x4), .val (.int ((x0 &&& (2147483647 : Int32)) % (3 : Int32))), .unset, .unset, .unset, .unset, .unset, .unset, .unset, .unset, .unset, .unset, .unset] [(.int (1 : Int32)), (.int ((x0 &&& (2147483647 : Int32)) % (3 : Int32)))])
    by_cases h20 : ((x0 &&& (2147483647 : Int32)) % (3 : Int32)) = (1 : Int32)
    · replace hv := (if_pos h20).symm.trans hv
      refine own_go (fun _ => XS.icmpNo X.here hx rfl (hb hby at_20) rfl (XT.ii_ne_f h20)) ?_
      show own_WP p e below _ T (mkF m 23 #[.val (.int x0), .val (.int x1), .val (.int x2), .val (.int x3), .val (.int x4), .val (.int ((x0 &&& (2147483647 : Int32)) % (3 : Int32))), .unset, .unset, .unset, .unset, .unset, .unset, .unset, .unset, .unset, .unset, .unset] [])
      refine own_go (fun _ => XS.iconst X.here hx rfl (hb hby at_23)) ?_
      show own_WP p e below _ T (mkF m 24 #[.val (.int x0), .val (.int x1), .val (.int x2), .val (.int x3), .val (.int x4), .val (.int ((x0 &&& (2147483647 : Int32)) % (3 : Int32))), .unset, .unset, .unset, .unset, .unset, .unset, .unset, .unset, .unset, .unset, .unset] [(.int (2 : Int32))])
      refine own_go (fun _ => XS.goto X.here hx rfl (pc0 := 24) (pc' := 28) rfl (hb hby at_24) (by decide) (by decide)) ?_
      exact b0_28 hw C Z0 rr hP X e0 N K x0 x1 x2 x3 x4 ((x0 &&& (2147483647 : Int32)) % (3 : Int32)) (2 : Int32) hv
    · replace hv := (if_neg h20).symm.trans hv
      refine own_go (fun _ => XS.icmpYes X.here hx rfl (pc0 := 20) (pc' := 27) rfl (hb hby at_20) rfl (XT.ii_ne_t h20) (by decide) (by decide)) ?_
      show own_WP p e below _ T (mkF m 27 #[.val (.int x0), .val (.int x1), .val (.int x2), .val (.int x3), .val (.int x4), .val (.int ((x0 &&& (2147483647 : Int32)) % (3 : Int32))), .unset, .unset, .unset, .unset, .unset, .unset, .unset, .unset, .unset, .unset, .unset] [])
      refine own_go (fun _ => XS.iconst X.here hx rfl (hb hby at_27)) ?_
      exact b0_28 hw C Z0 rr hP X e0 N K x0 x1 x2 x3 x4 ((x0 &&& (2147483647 : Int32)) % (3 : Int32)) (3 : Int32) hv
theorem ef0 (m : MethodId) (x0 : Int32) (x1 : Int32) (x2 : Int32) (x3 : Int32) (x4 : Int32) : entryFrame m #[(.int x0), (.int x1), (.int x2), (.int x3), (.int x4)] maxLocals = (mkF m 0 #[.val (.int x0), .val (.int x1), .val (.int x2), .val (.int x3), .val (.int x4), .unset, .unset, .unset, .unset, .unset, .unset, .unset, .unset, .unset, .unset, .unset, .unset] []) := by first | (simp [entryFrame, mkF, argsToLocals, Value.category, maxLocals]; done) | rfl
theorem pn0 : plainFor x = true := plainFor_of_name (by first | (simp [plainName, overriddenIn, x]; done) | decide +kernel)
theorem own_len31 (x : Int32) : ¬ ((x &&& (31 : Int32)) < 0 ∨ 31 < (x &&& (31 : Int32)).toInt) := by
  have q := c_mask x 31 5 (by decide) (by decide +kernel)
  rw [Int32.lt_iff_toInt_lt]
  have q0 : (0 : Int32).toInt = 0 := rfl
  omega
theorem own_28 (x1 x2 x3 x4 t : Int32) (ht : t = 0 ∨ t = 2 ∨ t = 3) : f0_28 x1 x2 x3 x4 t = some 1 := by
  unfold f0_28
  rw [if_neg (own_len31 x3)]
  unfold f1_0 f2_0
  simp only [Option.bind_some]
  rcases ht with rfl | rfl | rfl
  · rw [if_pos rfl]
    by_cases h : (x1 &&& (128 : Int32)) = 0
    · rw [if_pos h]
      unfold f0_87 f0_173 f4_0 f4_54 f4_87
      rw [if_pos rfl, if_pos h]
      rfl
    · rw [if_neg h]
      unfold f0_87 f0_173 f4_0 f4_54 f4_87
      rw [if_pos rfl, if_neg h]
      rfl
  · rw [if_neg (by decide), if_pos rfl]
    unfold own_let f0_173 f4_0 f4_87
    rfl
  · rw [if_neg (by decide), if_neg (by decide)]
    unfold own_let f0_173 f4_0 f4_87
    rfl
theorem plain0 (x0 x1 x2 x3 x4 : Int32) : f0_0 x0 x1 x2 x3 x4 = some 1 := by
  unfold f0_0
  split
  · exact own_28 _ _ _ _ _ (Or.inl rfl)
  · split
    · exact own_28 _ _ _ _ _ (Or.inr (Or.inl rfl))
    · exact own_28 _ _ _ _ _ (Or.inr (Or.inr rfl))
theorem rm0 (l : Launch) (Z : State) (a0 : Array Value) (hw : ∀ d ∈ tables_1, d.before a0 Z = true) (ws : List Jvm.Cond) (x0 : Int32) (x1 : Int32) (x2 : Int32) (x3 : Int32) (x4 : Int32) (h0 : Heap) : own_Met l Z x code maxLocals ret ws room_1 #[(.int x0), (.int x1), (.int x2), (.int x3), (.int x4)] h0 (fun v h L => v = some (.int 1) ∧ Fr h0.size L) := by
  refine own_body pn0 ?_
  intro p e s m below meth c s₁ C X e0
  exact own_cast (ef0 m x0 x1 x2 x3 x4) (b0_0 hw C (Nat.le_refl h0.size) (1 : Int32) (fun v h L a b c => ⟨c, a⟩) X e0 (Fr.nil _) (Keep.refl h0 []) x0 x1 x2 x3 x4 (plain0 x0 x1 x2 x3 x4))
set_option maxRecDepth 65536 in
set_option maxHeartbeats 40000000 in
theorem comes_1 {Post : Tables → Env → Array Value → State → Outcome → State → Prop} (hpost : ∀ tb e args s v u, (limb_1_1.after args s (.returned v) u = true ∧ limb_1_2.after args s (.returned v) u = true ∧ True) → FrameEnd s (.returned v) u (Jvm.fieldLocs frame_1_writes args s ++ Jvm.arrayLocs frame_1_arrays args s ++ Jvm.staticLocs frame_1_statics s) 16 192 → Post tb e args s (.returned v) u) :
    ArmFor flags0 classFile x code maxLocals ret World_1 tables_1 room_1 Calls_1 rest_1 Pre_1 Post := by
  intro l hfl _ _ p e ha hc hk s m args below hf hA hF happ hP
  obtain ⟨hcalls, hrest, hpre⟩ := hP
  obtain ⟨-, -, -, hnamed, -, -, -, hat⟩ := (Spec.applies_iff hf).mp happ
  obtain ⟨hg, hn⟩ := and_e (Cond.before_iff.mp (show (Jvm.Cond.and given_1 narrow_1).before args s = true from hpre))
  obtain ⟨hcnt, hg0⟩ := and_e hg
  obtain ⟨ha0, hg1⟩ := and_e hg0
  obtain ⟨ha1, hg2⟩ := and_e hg1
  obtain ⟨ha2, hg3⟩ := and_e hg2
  obtain ⟨ha3, hg4⟩ := and_e hg3
  have ha4 := hg4
  obtain ⟨w0, w1, w2, w3, w4, rfl⟩ : ∃ w0 w1 w2 w3 w4 : Value, args = #[w0, w1, w2, w3, w4] := by
    have hs : args.size = 5 := by simpa [Cond.value, given_1] using hcnt
    obtain ⟨L⟩ := args
    match L, hs with
    | [w0, w1, w2, w3, w4], _ => exact ⟨w0, w1, w2, w3, w4, rfl⟩
  have hw := fun d (hd : d ∈ tables_1) => atoms_spec (ws := Jvm.Cond.code x code maxLocals ret :: tables_1) hat d (List.mem_cons_of_mem _ hd)
  obtain ⟨i0, ei0⟩ := is_v ha0
  obtain rfl : w0 = (.int i0) := Option.some.inj ei0
  obtain ⟨i1, ei1⟩ := is_v ha1
  obtain rfl : w1 = (.int i1) := Option.some.inj ei1
  obtain ⟨i2, ei2⟩ := is_v ha2
  obtain rfl : w2 = (.int i2) := Option.some.inj ei2
  obtain ⟨i3, ei3⟩ := is_v ha3
  obtain rfl : w3 = (.int i3) := Option.some.inj ei3
  obtain ⟨i4, ei4⟩ := is_v ha4
  obtain rfl : w4 = (.int i4) := Option.some.inj ei4
  obtain ⟨n, o, h1, h2, h3, _, L, rfl, ⟨rfl, N⟩, hq⟩ := rm0 l s _ hw tables_1 i0 i1 i2 i3 i4 s.heap p e ha hc hk s m _ below hf ((Spec.applies_iff_loose hf).mp happ).1 ⟨rfl, State.Warmed39.refl s, rfl⟩ trivial
  refine ⟨n, _, h1, h2, h3, hpost _ _ _ _ _ _ ⟨Cond.after_iff.mpr rfl, Cond.after_iff.mpr (eq_i res_at (Term.int_eval (1)) rfl), trivial⟩ ⟨hq.1, hq.2.1, (hq.2.2.sift fun y hy => Or.inr (N y hy)).mono (by decide) (by decide)⟩⟩
theorem main_1_1 : Claimed_1_1 := comes_1 fun _ _ _ _ _ _ h hF => ⟨h.1, hF⟩
theorem main_1_2 : Claimed_1_2 := comes_1 fun _ _ _ _ _ _ h hF => ⟨h.2.1, hF⟩
end Jvm.Pilot.@@N@@
namespace Jvm.Pilot.@@N@@
open Jvm Jvm.ClassFile Sem Op Lib Jvm.Free Jvm.Stand Jvm.Pilot.@@N@@.Jvm.D
/-! MADE BY PROGRAM (witnessworld.py) out of the Statement's table words and the real class files: 10 classes; the members and pool entries that the words name. The judged class is class 1, her method 1. -/
namespace start1
open Jvm.ClassFile
def u (s : String) : CpInfo := .utf8 (stringToUtf16 s)
/-- a pool by its gaps: so many unusable entries, then the entry; so many at the end -/
def gap : Nat → List CpInfo → List CpInfo
  | 0, r => r
  | n + 1, r => .unusable :: gap n r
def poolList (es : List (Nat × CpInfo)) (last : Nat) : List CpInfo := es.foldr (fun e r => gap e.1 (e.2 :: r)) (gap last [])
def pool (es : List (Nat × CpInfo)) (last : Nat) : Array CpInfo := ⟨poolList es last⟩
def fileOf (pool : Array CpInfo) (this : Nat) (attrs : Array Attribute := #[]) (ms : Array MethodInfo := #[]) (fl : Nat := 33) (sup : Nat := 0) (ifs : Array Nat := #[]) (fds : Array FieldInfo := #[]) : ClassFile where
  minorVersion := 0
  majorVersion := 65
  constantPool := pool
  accessFlags := fl
  thisClass := this
  superClass := sup
  interfaces := ifs
  fields := fds
  methods := ms
  attributes := attrs
def plain (name : String) (sup : Option ClassId) : Class where
  name := name
  kind := .ordinary
  loader := none
  accessFlags := 33
  super := sup
  interfaces := #[]
  cf := none
  fields := #[]
  methods := #[]
  instanceTypes := #[]
  staticTypes := #[]
  resolved := #[]
  callSites := []
  init := .initialized
  statics := none
  mirror := none

def pool0 : Array CpInfo := pool [(5, u "<init>"), (0, u "()V"), (1, .class_ 10), (1, u "java/lang/Object")] 113

def k0c0 : Code := { maxStack := 0, maxLocals := 1, code := object_method_1_code, exceptionTable := #[], attributes := #[] }
def k0m0 : Method := { name := "<init>", desc := "()V", sig := { parameters := [], returnType := none }, accessFlags := 1, code := some k0c0 }
/-- java/lang/Object -/
def k0 : Class := { plain "java/lang/Object" none with
  accessFlags := 33
  interfaces := #[]
  cf := some (fileOf pool0 8 #[] #[{ accessFlags := 1, nameIndex := 5, descriptorIndex := 6, attributes := #[] }] 33 0 #[] #[])
  fields := #[]
  methods := #[k0m0]
  instanceTypes := #[]
  staticTypes := #[]
  resolved := Array.replicate 124 none
  statics := none }

def pool1 : Array CpInfo := pool [(2, .class_ 4), (1, u "java/lang/Object"), (0, u "<init>"), (0, u "()V"), (0, .integer 2147483647), (0, .class_ 9), (0, u "com/example/objwire/objwire/rpc/Pdu"), (0, .methodref 8 11), (0, .nameAndType 5 12), (0, u "(III[BI)V"), (0, .methodref 8 14), (0, .nameAndType 15 16), (0, u "sealedFrom"), (0, u "()I"), (0, .class_ 18), (0, u "com/example/objwire/objwire/rpc/PduSealedFromPinLaw"), (2, u "law"), (0, u "(IIIII)Z")] 5

def k1m0 : Method := { name := "<init>", desc := "()V", sig := { parameters := [], returnType := none }, accessFlags := 1, code := none }
def k1c1 : Code := { maxStack := 7, maxLocals := 17, code := code, exceptionTable := #[], attributes := #[] }
def k1m1 : Method := { name := "law", desc := "(IIIII)Z", sig := { parameters := [.int, .int, .int, .int, .int], returnType := some .boolean }, accessFlags := 9, code := some k1c1 }
/-- com/example/objwire/objwire/rpc/PduSealedFromPinLaw -/
def k1 : Class := { plain "com/example/objwire/objwire/rpc/PduSealedFromPinLaw" (some 0) with
  accessFlags := 49
  interfaces := #[]
  cf := some (fileOf pool1 17 #[] #[{ accessFlags := 1, nameIndex := 5, descriptorIndex := 6, attributes := #[] }, { accessFlags := 9, nameIndex := 21, descriptorIndex := 22, attributes := #[] }] 49 2 #[] #[])
  fields := #[]
  methods := #[k1m0, k1m1]
  instanceTypes := #[]
  staticTypes := #[]
  resolved := Array.replicate 28 none
  statics := none }

def pool2 : Array CpInfo := pool [(1, .methodref 2 3), (0, .class_ 4), (0, .nameAndType 5 6), (0, u "java/lang/Object"), (0, u "<init>"), (0, u "()V"), (0, .class_ 8), (0, u "java/lang/Record")] 13

def k2c0 : Code := { maxStack := 1, maxLocals := 1, code := jdk_30_method_1_code, exceptionTable := #[], attributes := #[] }
def k2m0 : Method := { name := "<init>", desc := "()V", sig := { parameters := [], returnType := none }, accessFlags := 4, code := some k2c0 }
/-- java/lang/Record -/
def k2 : Class := { plain "java/lang/Record" (some 0) with
  accessFlags := 1057
  interfaces := #[]
  cf := some (fileOf pool2 7 #[] #[{ accessFlags := 4, nameIndex := 5, descriptorIndex := 6, attributes := #[] }] 1057 2 #[] #[])
  fields := #[]
  methods := #[k2m0]
  instanceTypes := #[]
  staticTypes := #[]
  resolved := Array.replicate 22 none
  statics := none }

def pool3 : Array CpInfo := pool [(1, .class_ 2), (0, u "com/example/objwire/objwire/rpc/Pdu"), (0, .methodref 4 5), (0, .class_ 6), (0, .nameAndType 7 8), (0, u "java/lang/Record"), (0, u "<init>"), (0, u "()V"), (0, .fieldref 1 10), (0, .nameAndType 11 12), (0, u "type"), (0, u "I"), (0, .fieldref 1 14), (0, .nameAndType 15 12), (0, u "flags"), (0, .fieldref 1 17), (0, .nameAndType 18 12), (0, u "callId"), (0, .fieldref 1 20), (0, .nameAndType 21 22), (0, u "body"), (0, u "[B"), (0, .fieldref 1 24), (0, .nameAndType 25 12), (0, u "authLength"), (2, u "(III[BI)V"), (5, u "()I"), (5, .class_ 42), (1, u "com/example/objwire/objwire/rpc/Pdu$Header"), (150, u "DATA_REPRESENTATION"), (25, u "REQUEST"), (2, u "RESPONSE"), (1, u "FAULT"), (1, u "BIND"), (1, u "BIND_ACK"), (1, u "BIND_NAK"), (1, u "ALTER_CONTEXT"), (1, u "ALTER_CONTEXT_RESP"), (1, u "AUTH3"), (1, u "FIRST_FRAGMENT"), (1, u "LAST_FRAGMENT"), (0, u "OBJECT_UUID"), (1, u "ONLY_FRAGMENT"), (0, u "MAX_FRAGMENT"), (1, u "MIN_FRAGMENT"), (1, u "HEADER_LENGTH"), (0, u "ALLOC_HINT_LENGTH"), (21, u "sealedFrom")] 39

def k3c0 : Code := { maxStack := 2, maxLocals := 6, code := prog_106_method_2_code, exceptionTable := #[], attributes := #[] }
def k3m0 : Method := { name := "<init>", desc := "(III[BI)V", sig := { parameters := [.int, .int, .int, (.array .byte), .int], returnType := none }, accessFlags := 1, code := some k3c0 }
def k3c1 : Code := { maxStack := 3, maxLocals := 2, code := prog_106_method_12_code, exceptionTable := #[], attributes := #[] }
def k3m1 : Method := { name := "sealedFrom", desc := "()I", sig := { parameters := [], returnType := some .int }, accessFlags := 0, code := some k3c1 }
/-- com/example/objwire/objwire/rpc/Pdu -/
def k3 : Class := { plain "com/example/objwire/objwire/rpc/Pdu" (some 2) with
  accessFlags := 49
  interfaces := #[]
  cf := some (fileOf pool3 1 #[.nestMembers #[40]] #[{ accessFlags := 1, nameIndex := 7, descriptorIndex := 28, attributes := #[] }, { accessFlags := 0, nameIndex := 271, descriptorIndex := 34, attributes := #[] }] 49 4 #[] #[{ accessFlags := 18, nameIndex := 11, descriptorIndex := 12, attributes := #[] }, { accessFlags := 18, nameIndex := 15, descriptorIndex := 12, attributes := #[] }, { accessFlags := 18, nameIndex := 18, descriptorIndex := 12, attributes := #[] }, { accessFlags := 18, nameIndex := 21, descriptorIndex := 22, attributes := #[] }, { accessFlags := 18, nameIndex := 25, descriptorIndex := 12, attributes := #[] }, { accessFlags := 25, nameIndex := 219, descriptorIndex := 12, attributes := #[] }, { accessFlags := 25, nameIndex := 222, descriptorIndex := 12, attributes := #[] }, { accessFlags := 25, nameIndex := 224, descriptorIndex := 12, attributes := #[] }, { accessFlags := 25, nameIndex := 226, descriptorIndex := 12, attributes := #[] }, { accessFlags := 25, nameIndex := 228, descriptorIndex := 12, attributes := #[] }, { accessFlags := 25, nameIndex := 230, descriptorIndex := 12, attributes := #[] }, { accessFlags := 25, nameIndex := 232, descriptorIndex := 12, attributes := #[] }, { accessFlags := 25, nameIndex := 234, descriptorIndex := 12, attributes := #[] }, { accessFlags := 25, nameIndex := 236, descriptorIndex := 12, attributes := #[] }, { accessFlags := 25, nameIndex := 238, descriptorIndex := 12, attributes := #[] }, { accessFlags := 25, nameIndex := 240, descriptorIndex := 12, attributes := #[] }, { accessFlags := 25, nameIndex := 241, descriptorIndex := 12, attributes := #[] }, { accessFlags := 25, nameIndex := 243, descriptorIndex := 12, attributes := #[] }, { accessFlags := 24, nameIndex := 244, descriptorIndex := 12, attributes := #[] }, { accessFlags := 24, nameIndex := 246, descriptorIndex := 12, attributes := #[] }, { accessFlags := 26, nameIndex := 248, descriptorIndex := 12, attributes := #[] }, { accessFlags := 26, nameIndex := 249, descriptorIndex := 12, attributes := #[] }, { accessFlags := 26, nameIndex := 193, descriptorIndex := 22, attributes := #[] }])
  fields := #[{ name := "type", type := .int, accessFlags := 18, slot := 0, constantValue := 0 }, { name := "flags", type := .int, accessFlags := 18, slot := 1, constantValue := 0 }, { name := "callId", type := .int, accessFlags := 18, slot := 2, constantValue := 0 }, { name := "body", type := (.array .byte), accessFlags := 18, slot := 3, constantValue := 0 }, { name := "authLength", type := .int, accessFlags := 18, slot := 4, constantValue := 0 }, { name := "REQUEST", type := .int, accessFlags := 25, slot := 0, constantValue := 0 }, { name := "RESPONSE", type := .int, accessFlags := 25, slot := 1, constantValue := 0 }, { name := "FAULT", type := .int, accessFlags := 25, slot := 2, constantValue := 0 }, { name := "BIND", type := .int, accessFlags := 25, slot := 3, constantValue := 0 }, { name := "BIND_ACK", type := .int, accessFlags := 25, slot := 4, constantValue := 0 }, { name := "BIND_NAK", type := .int, accessFlags := 25, slot := 5, constantValue := 0 }, { name := "ALTER_CONTEXT", type := .int, accessFlags := 25, slot := 6, constantValue := 0 }, { name := "ALTER_CONTEXT_RESP", type := .int, accessFlags := 25, slot := 7, constantValue := 0 }, { name := "AUTH3", type := .int, accessFlags := 25, slot := 8, constantValue := 0 }, { name := "FIRST_FRAGMENT", type := .int, accessFlags := 25, slot := 9, constantValue := 0 }, { name := "LAST_FRAGMENT", type := .int, accessFlags := 25, slot := 10, constantValue := 0 }, { name := "OBJECT_UUID", type := .int, accessFlags := 25, slot := 11, constantValue := 0 }, { name := "ONLY_FRAGMENT", type := .int, accessFlags := 25, slot := 12, constantValue := 0 }, { name := "MAX_FRAGMENT", type := .int, accessFlags := 24, slot := 13, constantValue := 0 }, { name := "MIN_FRAGMENT", type := .int, accessFlags := 24, slot := 14, constantValue := 0 }, { name := "HEADER_LENGTH", type := .int, accessFlags := 26, slot := 15, constantValue := 0 }, { name := "ALLOC_HINT_LENGTH", type := .int, accessFlags := 26, slot := 16, constantValue := 0 }, { name := "DATA_REPRESENTATION", type := (.array .byte), accessFlags := 26, slot := 17, constantValue := 0 }]
  methods := #[k3m0, k3m1]
  instanceTypes := #[.int, .int, .int, (.array .byte), .int]
  staticTypes := #[.int, .int, .int, .int, .int, .int, .int, .int, .int, .int, .int, .int, .int, .int, .int, .int, .int, (.array .byte)]
  resolved := Array.replicate 311 none
  statics := none }

def pool4 : Array CpInfo := pool [(1, u "java/lang/Cloneable"), (0, .class_ 1), (0, u "java/lang/Object"), (0, .class_ 3)] 3

/-- java/lang/Cloneable -/
def k4 : Class := { plain "java/lang/Cloneable" (some 0) with
  accessFlags := 1537
  interfaces := #[]
  cf := some (fileOf pool4 2 #[] #[] 1537 4 #[] #[])
  fields := #[]
  methods := #[]
  instanceTypes := #[]
  staticTypes := #[]
  resolved := Array.replicate 8 none
  statics := none }

def pool5 : Array CpInfo := pool [(1, u "java/io/Serializable"), (0, .class_ 1), (0, u "java/lang/Object"), (0, .class_ 3)] 3

/-- java/io/Serializable -/
def k5 : Class := { plain "java/io/Serializable" (some 0) with
  accessFlags := 1537
  interfaces := #[]
  cf := some (fileOf pool5 2 #[] #[] 1537 4 #[] #[])
  fields := #[]
  methods := #[]
  instanceTypes := #[]
  staticTypes := #[]
  resolved := Array.replicate 8 none
  statics := none }

/-- the primitive byte -/
def k6 : Class := { plain "byte" none with kind := .primitive 'B', accessFlags := 0x411 }
/-- [B -/
def k7 : Class := { plain "[B" (some 0) with kind := .array 6 .byte, interfaces := #[4, 5], accessFlags := 1041 }

/-- the primitive int -/
def k8 : Class := { plain "int" none with kind := .primitive 'I', accessFlags := 0x411 }
/-- [I -/
def k9 : Class := { plain "[I" (some 0) with kind := .array 8 .int, interfaces := #[4, 5], accessFlags := 1041 }

def heap : Heap := #[]
def classes : Array Class := #[k0, k1, k2, k3, k4, k5, k6, k7, k8, k9]
def interned : List (Array UInt16 × Addr) := []
def slotsUsed : Nat := 0
def theMethod : MethodId := ⟨1, 1⟩
def args0 : Array Value := #[.int 5, .int 5, .int 5, .int 5, .int 5]
def aboutOver (below : List Frame) : State where
  vm := { classes := classes, interned := interned.toArray }
  heap := heap
  slotsUsed := slotsUsed
  threads := #[{ frames := .invoking theMethod args0 :: below }]
def below0 : List Frame := [.native { method := ⟨0, 0⟩, args := #[] }]
def about1 : State := aboutOver below0
def p0 : Program := .bare "" "" ""
def e0 : Env := launch0.env 0 0 0
theorem w_frames : about1.frames = Frame.invoking theMethod args0 :: below0 := rfl
set_option maxRecDepth 65536 in
theorem w_args : argsFit about1.vm theMethod args0 = true := by decide +kernel
set_option maxRecDepth 65536 in
theorem w_heap : heapFits about1 = true := by decide +kernel
set_option maxRecDepth 65536 in
theorem w_runnable : about1.curStatus? = some .runnable := by decide +kernel
set_option maxRecDepth 65536 in
theorem w_alone : about1.alone = true := by decide +kernel
set_option maxRecDepth 65536 in
theorem w_named : about1.methodNamed? x = some theMethod := by decide +kernel
set_option maxRecDepth 65536 in
theorem w_hears : about1.hears theMethod below0 = true := by decide +kernel
set_option maxRecDepth 65536 in
theorem w_ripe : about1.ripe theMethod args0 below0 = true := by decide +kernel
theorem w_running : about1.status = .running := rfl
set_option maxRecDepth 65536 in
theorem w_room : about1.hasRoom e0.platform room_1 = true :=
  launch0.hasRoom_least _ room_1 (by decide +kernel) (by decide +kernel) (by decide +kernel) (by decide +kernel) (by decide +kernel) (by decide +kernel)
theorem allAtoms_all (ts : List Jvm.Cond) (a : Array Jvm.Value) (st : Jvm.State) : (allAtoms ts).before a st = ts.all (fun c => c.before a st) := by
  induction ts with
  | nil => rfl
  | cons c t ih =>
    show (Jvm.Cond.and c (allAtoms t)).before a st = _
    rw [Jvm.Cond.before_and, ih, List.all_cons]
def words1 : List Jvm.Cond := Jvm.Cond.code x code maxLocals ret :: tables_1
/-- a 'code' word, met by the world's own term for the bytes: nothing is compared byte by byte -/
theorem code_word {y : MethodName} {bytes : ByteArray} {mx : Nat} {rt : Option FieldType} {a : Array Value} {s : State} {m : MethodId} {meth : Method} {c : Code} (h1 : s.methodNamed? y = some m) (h2 : s.vm.method? m = some meth) (h3 : meth.code = some c) (h4 : c.code = bytes)
    (h5 : (c.maxLocals == mx && c.exceptionTable.isEmpty && decide (c.maxStack ≤ mostOperands) && decide (meth.sig.returnType = rt) && !meth.locks && decide (parseMethodDescriptor y.desc = some meth.sig)) = true) : (Jvm.Cond.code y bytes mx rt).before a s = true := by
  simp only [Bool.and_eq_true, beq_iff_eq, Bool.not_eq_true', decide_eq_true_eq] at h5
  obtain ⟨⟨⟨⟨⟨g1, g2⟩, g3⟩, g4⟩, g5⟩, g6⟩ := h5
  simp [Cond.before, Cond.holds, Cond.value, h1, h2, h3, h4, g1, g2, g3, g4, g5, g6]
def isCode : Jvm.Cond → Bool
  | .code _ _ _ _ => true
  | _ => false
theorem all_split {L : List Jvm.Cond} {P : Jvm.Cond → Bool} (h1 : L.all (fun c => isCode c || P c) = true) (h2 : ∀ c ∈ L.filter isCode, P c = true) : L.all P = true := by
  refine List.all_eq_true.mpr fun c hc => ?_
  have h := List.all_eq_true.mp h1 c hc
  rcases Bool.eq_false_or_eq_true (isCode c) with hi | hi
  · exact h2 c (List.mem_filter.mpr ⟨hc, hi⟩)
  · simpa [hi] using h
set_option maxRecDepth 65536 in
theorem w_c0 : (Jvm.Cond.code x code maxLocals ret).before args0 about1 = true := code_word (m := ⟨1, 1⟩) (meth := k1m1) (c := k1c1) (by decide +kernel) rfl rfl rfl (by decide +kernel)
set_option maxRecDepth 65536 in
theorem w_c1 : (Jvm.Cond.code ({ cls := "com/example/objwire/objwire/rpc/Pdu", name := "<init>", desc := "(III[BI)V" } : Jvm.MethodName) prog_106_method_2_code (6 : Nat) (Option.none : Option Jvm.ClassFile.FieldType)).before args0 about1 = true := code_word (m := ⟨3, 0⟩) (meth := k3m0) (c := k3c0) (by decide +kernel) rfl rfl rfl (by decide +kernel)
set_option maxRecDepth 65536 in
theorem w_c2 : (Jvm.Cond.code ({ cls := "java/lang/Record", name := "<init>", desc := "()V" } : Jvm.MethodName) jdk_30_method_1_code (1 : Nat) (Option.none : Option Jvm.ClassFile.FieldType)).before args0 about1 = true := code_word (m := ⟨2, 0⟩) (meth := k2m0) (c := k2c0) (by decide +kernel) rfl rfl rfl (by decide +kernel)
set_option maxRecDepth 65536 in
theorem w_c3 : (Jvm.Cond.code ({ cls := "java/lang/Object", name := "<init>", desc := "()V" } : Jvm.MethodName) object_method_1_code (1 : Nat) (Option.none : Option Jvm.ClassFile.FieldType)).before args0 about1 = true := code_word (m := ⟨0, 0⟩) (meth := k0m0) (c := k0c0) (by decide +kernel) rfl rfl rfl (by decide +kernel)
set_option maxRecDepth 65536 in
theorem w_c4 : (Jvm.Cond.code ({ cls := "com/example/objwire/objwire/rpc/Pdu", name := "sealedFrom", desc := "()I" } : Jvm.MethodName) prog_106_method_12_code (2 : Nat) (Option.some Jvm.ClassFile.FieldType.int)).before args0 about1 = true := code_word (m := ⟨3, 1⟩) (meth := k3m1) (c := k3c1) (by decide +kernel) rfl rfl rfl (by decide +kernel)
def codes1 : List Jvm.Cond := [Jvm.Cond.code x code maxLocals ret, Jvm.Cond.code ({ cls := "com/example/objwire/objwire/rpc/Pdu", name := "<init>", desc := "(III[BI)V" } : Jvm.MethodName) prog_106_method_2_code (6 : Nat) (Option.none : Option Jvm.ClassFile.FieldType), Jvm.Cond.code ({ cls := "java/lang/Record", name := "<init>", desc := "()V" } : Jvm.MethodName) jdk_30_method_1_code (1 : Nat) (Option.none : Option Jvm.ClassFile.FieldType), Jvm.Cond.code ({ cls := "java/lang/Object", name := "<init>", desc := "()V" } : Jvm.MethodName) object_method_1_code (1 : Nat) (Option.none : Option Jvm.ClassFile.FieldType), Jvm.Cond.code ({ cls := "com/example/objwire/objwire/rpc/Pdu", name := "sealedFrom", desc := "()I" } : Jvm.MethodName) prog_106_method_12_code (2 : Nat) (Option.some Jvm.ClassFile.FieldType.int)]
set_option maxRecDepth 65536 in
theorem codes_eq : words1.filter isCode = codes1 := rfl
theorem w_codes : ∀ c ∈ words1.filter isCode, c.before args0 about1 = true := by
  rw [codes_eq]
  intro c hc
  simp only [codes1, List.mem_cons, List.not_mem_nil, or_false] at hc
  rcases hc with rfl | rfl | rfl | rfl | rfl
  · exact w_c0
  · exact w_c1
  · exact w_c2
  · exact w_c3
  · exact w_c4
set_option maxRecDepth 65536 in
theorem w_t1 : (words1.take 24).all (fun c => isCode c || c.before args0 about1) = true := by decide +kernel
set_option maxRecDepth 65536 in
theorem w_t2 : (words1.drop 24).all (fun c => isCode c || c.before args0 about1) = true := by decide +kernel
theorem w_tables : (allAtoms (Jvm.Cond.code x code maxLocals ret :: tables_1)).before args0 about1 = true := by
  rw [allAtoms_all]
  show words1.all (fun c => c.before args0 about1) = true
  refine all_split ?_ w_codes
  rw [← List.take_append_drop 24 words1, List.all_append, w_t1, w_t2]
  rfl
set_option maxRecDepth 65536 in
theorem w_case : (Jvm.Cond.and given_1 narrow_1).before args0 about1 = true := by decide +kernel
theorem w_applies : (headSpec (Jvm.Cond.code x code maxLocals ret :: tables_1) room_1).applies x e0.platform about1 = true :=
  (Spec.applies_iff w_frames).mpr ⟨w_running, w_runnable, w_alone, w_named, w_hears, w_ripe, w_room, w_tables⟩
theorem atStart : AtStart classFile x code maxLocals ret World_1 tables_1 room_1 Calls_1 rest_1 Pre_1 launch0 p0 e0 about1 theMethod args0 below0 :=
  ⟨lists_1, trivial, launch0.admits_env _ _ _, launch0.least_env, fairChoices_fair.cas, fairChoices_fair.clock, w_frames, w_args, w_heap, w_applies, trivial, trivial, w_case⟩
end start1
theorem witness_1 : WitnessClaimed_1 := ⟨start1.p0, start1.e0, start1.about1, start1.theMethod, start1.args0, start1.below0, start1.atStart⟩
end Jvm.Pilot.@@N@@
